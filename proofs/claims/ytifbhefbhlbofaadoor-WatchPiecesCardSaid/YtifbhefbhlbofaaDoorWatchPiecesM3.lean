/- Texts of this claim, one behind the other. -/
import Derived.Test.YtifbhefbhlbofaaDoorWatchPiecesM2
import Derived.Lib.AppendZerosOnto
import Derived.MapKept
import Derived.Carry
set_option maxRecDepth 100000
set_option maxRecDepth 100000
namespace Go.Proofs.YtifbhefbhlbofaaDoor
namespace Pv
set_option linter.unusedVariables false
section
variable {P : Program} {E : Env} {F : Fr} {g g' : Gh} {st : PSt} {a : Act} {w w' : World} {o : Oper} {R : Type} {C : Upd -> Option R} {r : R} {v : Value}
theorem un_out (h:MRel F g st (tm a) w) {d:Nat} {u:Upd} (hU:OutR F g st w u v g' w') (hC:unC d st.fr C u=some r):∃ u' g'',C u'=some r /\ OutR F g st w u' v g'' w':=by
  unfold unC at hC
  split at hC
  case h_2=>cases hC
  rename_i k E0 q l k' hval hloc hgone hbn
  obtain ⟨hk,hC2⟩:=chk_some hC
  simp only [Bool.and_eq_true] at hk
  obtain ⟨⟨⟨hfd,hkk⟩,hkd⟩,hpos⟩:=hk
  have hkk:=tokEq_iff.1 hkk
  subst hkk
  have hkd:=tokEq_iff.1 hkd
  have hpos:0 < List.length (α:=Int) l:=by rwa [Nat.blt_eq] at hpos
  have hkO:st.O k=false:=by rw [hkd];exact (h.fresh d hfd).2.2.1 0
  have hkb:k∈u.born:=by rw [hbn];simp
  have hv:=hU.val (tm a)
  rw [hval] at hv
  obtain ⟨cs,hcs,hcs1⟩:=hv
  obtain ⟨hrd,hown⟩:=repLs_single.1 hcs
  obtain ⟨v',hv',hO⟩:=hown (putO_true.2 (.inl hkb))
  have e:v=v':=by
    have h:[v]=[v']:=hcs1.symm.trans hv'
    injection h
  subst e
  rcases hO with ⟨a0,_,h2,h3⟩ | ⟨b,cap,cur,hv,hblk,hheap,hle,hcap,hsz,hel,hCb,hW⟩
  · rw [h2] at hpos;exact absurd hpos (Nat.lt_irrefl 0)
  have hb:=hU.born k b hkb hblk
  have hge:w.heap.size<=b:=by
    rcases hb.1 with h1 | ⟨k0,h1,_⟩
    · exact h1
    · rw [hgone] at h1;cases h1
  have hw0:=h.fr.size
  refine ⟨_,⟨⟨fun b' o=>g'.C b' o /\ b'≠b,g'.C.i⟩,g'.blk,g'.ρ,g'.H,g'.ow,g'.ver⟩,hC2,?_⟩
  have hel':∀ (i:Nat) (x:Int),(l:List Int)[i]? = some x->cur.toList[i]? = some (.int q x) /\ (Lit.int q x).wf=true:=fun i x hx=>by
    have h1:(cur.toList.drop (i*1)).take 1=[Value.int q x] /\ (Lit.int q x).wf=true:=hel i x hx
    refine ⟨?_,h1.2⟩
    have h2:=congrArg (fun z=>z[0]?) h1.1
    simp only [List.getElem?_take,List.getElem?_drop] at h2
    simpa using h2
  have hKp:∀ b',b' < w.heap.size->Kp g w g' w' b'->Kp g w ⟨⟨fun b' o=>g'.C b' o /\ b'≠b,g'.C.i⟩,g'.blk,g'.ρ,g'.H,g'.ow,g'.ver⟩ w' b':=fun b' hlt hk=>⟨hk.1,fun o=>⟨fun hx=>(hk.2 o).1 hx.1,fun hx=>⟨(hk.2 o).2 hx,by omega⟩⟩⟩
  refine {
    fr:={
      size:=hU.fr.size
      os:=hU.fr.os
      tape:=hU.fr.tape
      output:=hU.fr.output
      old:=hU.fr.old
      shape:=hU.fr.shape
      com:=fun b' o hlt hx=>⟨fun hc=>(hU.fr.com b' o hlt hx).1 hc.1,fun hc=>⟨(hU.fr.com b' o hlt hx).2 hc,by omega⟩⟩
      imono:=hU.fr.imono
      mono:=fun b' o hc=>⟨hU.fr.mono b' o hc,by have:=h.fr.lim b' o (h.fr.mono b' o hc);omega⟩
      lim:=fun b' o hc=>hU.fr.lim b' o hc.1 }
    gw:=⟨fun ad u hc hC=>⟨(hU.gw.cell ad u hc hC).1,(hU.gw.cell ad u hc hC).2,by have:=h.fr.lim _ _ hC;omega⟩,hU.gw.i⟩
    live:=fun k' hk'=>fun hO'=>?_
    ρ:=hU.ρ
    ρn:=fun k'=>?_
    H:=hU.H
    val:=fun tmf hO=>?_
    nospec:=fun _ _ _ _ e=>by cases e
    locs:=fun k' ls hk' np'=>by cases hk'
    rest:=fun k' x hL np' hk'=>hKp _ (loc_lt h hL np') (hU.rest k' x hL np' (by rw [hloc];simp))
    blk0:=hU.blk0
    born:=fun k' b' hk' hb'=>?_
    bornI:=fun k1 k2 b' h1 h2 _ _=>by rw [List.mem_singleton.1 h1,List.mem_singleton.1 h2]
    new:=fun k' ls hk' hL=>by cases hk'
    pl:=⟨fun k' ls hk' hp=>(by cases hk'),fun b' k' j s hb' hk'=>hKp b' (h.ows.lim b' _ hb') (hU.pl.kp b' k' j s hb' (by rw [hloc];simp)),fun k' hk'=>hU.pl.ver k' (by rw [hloc];simp),hU.pl.mono,fun b' o' hb'=>⟨(hU.pl.own b' o' hb').1,?_⟩,fun t b' ht hb'=>hU.pl.born t b' (by rw [List.mem_singleton.1 ht];exact hkb) hb',fun k' ls hk' hL np'=>(by cases hk'),
      fun k' _ j=>hU.pl.i k' (.inl (by rw [hloc];simp)) j,fun k' hk' hp=>(by cases hk'),fun b' k' j s hb' hpt=>.inr fun o' ho'=>?_⟩ }
  · have hnk:k'≠k:=fun e=>hk' (by rw [e];exact List.mem_singleton.2 rfl)
    have hO1:st.O k'=true:=by
      rcases putO_true.1 hO' with h1 | h1
      · exact (hnk (List.mem_singleton.1 h1)).elim
      · exact h1.2
    have hnb:k' ∉ u.born:=by rw [hbn];exact fun e=>hnk (List.mem_singleton.1 e)
    obtain ⟨q1,q2,q3⟩:=hU.live k' hnb (putO_true.2 (.inr ⟨by rw [hgone];simp,hO1⟩))
    exact ⟨q1,q2,fun b' hb'=>hKp b' (h.blkS k' b' hO1 hb') (q3 b' hb')⟩
  · rcases hU.ρn k' with h1 | ⟨h1,ls,h2⟩
    · exact .inl h1
    · rw [hloc] at h2;cases h2
  · exact ⟨b,cap,cur,hv,hblk,hheap,hle,hcap,by rw [hsz];exact Nat.mul_one _,hel',fun o hc=>hc.2 rfl,fun o=>.inl (by omega)⟩
  · have:=hU.born k' b' (by rw [List.mem_singleton.1 hk'];exact hkb) hb'
    rw [hgone] at this
    exact this
  · rcases (hU.pl.own b' o' hb').2 with h1 | h1 | ⟨k0,h1,_⟩
    · exact .inl h1
    · exact .inr (.inl h1)
    · rw [hgone] at h1;cases h1
  · have hne : b' ≠ b := fun e => by
      have:=hU.pl.born k b hkb hblk
      rw [<-e] at this
      have hb2:g'.ow b'=some (k',j,s):=hb'
      rw [this] at hb2;cases hb2
    have hn:¬ g'.C b' o':=fun hc=>ho' ⟨hc,hne⟩
    rcases hU.pl.wr b' k' j s hb' hpt with ⟨h1,h2⟩ | h1
    · exact h.ows.wr b' k' j s h1 hpt o' fun hc=>hn (((hU.pl.kp b' k' j s h1 h2).2 o').2 hc)
    · exact h1 o' hn
theorem out_unRow (h:MRel F g st (tm a) w) {d:Nat} (hfd:hasN st.fr d=true) {k:Tok} (hO:st.O k=true) {q:IntKind} {l:List Int} {B0 B cap:Nat} {E0:TypeId} {cur:Array Value} (hk:g.blk k=some B0)
    (hB:B=B0 \/ w.heap.size<=B) (hb:w'.heap[B]? = some (.cells cur E0 (0,0))) (hsz:cur.size=cap) (hle:l.length<=cap) (hcap:cap<=maxLen)
    (hel:∀ (i:Nat) (x:Int),l[i]? = some x->cur.toList[i]? = some (.int q x) /\ (Lit.int q x).wf=true) (hF:Frame F g.C w') (hG:Gw w g.C w' g.C) (hold:∀ b,b < w.heap.size->b≠B->w'.heap[b]? = w.heap[b]?) (hsize:w.heap.size<=w'.heap.size)
    (hC0:∀ o,¬ g.C B o) (hW:∀ o,Wr F B o) :
    ∃ g',OutR F g st w ⟨.row d l.length false,[(d,[.d (.arr l.length (.int q)) l])],[],gone1 k⟩ (.slice (some ⟨B,0,none⟩) l.length cap) g' w':=by
  have hkz:k≠.zero:=fun e=>by rw [e,h.blk0] at hk;cases hk
  have hkg:k∈gone1 k:=gone1_mem hkz
  have hgk:∀ t,t∈gone1 k->t=k:=fun t ht=>by
    unfold gone1 at ht
    split at ht
    · cases ht
    · exact List.mem_singleton.1 ht
  obtain ⟨hd1,hd2,hd3,hd4,hd5⟩:=h.fresh d hfd
  have hB0:B0 < w.heap.size:=h.blkS k B0 hO hk
  have hBk:∀ k',st.O k'=true->k'≠k -> ∀ b,g.blk k'=some b->b≠B:=fun k' ho hne b hb' e=>by
    rcases hB with hB | hB
    · subst hB;subst e;exact hne (h.blkI k' k _ ho hO hb' hk)
    · have:=h.blkS k' b ho hb';omega
  have hBl:∀ j x,st.L j=some x->isPool j=false->(g.ρ j).1≠B:=fun j x hj np e=>by
    rcases hB with hB | hB
    · subst hB;exact h.blkL k _ j x hO hk hj np e
    · have:=loc_lt h hj np;omega
  have hBo:g.ow B=none:=by
    rcases hB with hB | hB
    · subst hB;exact h.ows.tok k _ hO hk
    · cases ho:g.ow B with
      | none=>rfl
      | some o=>have:=h.ows.lim B o ho;omega
  have hKp:∀ b,b < w.heap.size->b≠B -> ∀ ρ':Nat->Nat×Nat,Kp g w ⟨g.C,g.blk,ρ',g.H,g.ow,g.ver⟩ w' b:=fun b hb hne ρ'=>⟨hold b hb hne,fun o=>Iff.rfl⟩
  have hBlt:B < w'.heap.size:=lt_of_cells hb
  refine ⟨⟨g.C,g.blk,fun k'=>if k'=d then (B,0) else g.ρ k',g.H,g.ow,g.ver⟩,?_⟩
  refine {
    fr:=hF
    gw:=hG
    live:=fun k' _=>fun hO'=>?_
    ρ:=fun k' x hL=>?_
    ρn:=fun k'=>?_
    H:=rfl
    val:=fun tmf=>⟨hd5,cap,?_,hle,hcap,fun e=>by cases e⟩
    nospec:=fun _ _ _ _ e=>by cases e
    locs:=fun k' ls hk' np'=>?_
    rest:=fun k' x hL np' hk'=>hKp _ (loc_lt h hL np') (hBl k' x hL np') _
    blk0:=h.blk0
    born:=fun k' b' hk'=>by cases hk'
    bornI:=fun k' _ _ hk'=>by cases hk'
    new:=fun k' ls hk' hL=>?_
    pl:=⟨fun k' ls hk' hp=>?_,fun b' k' j s hb' hk'=>hKp b' (h.ows.lim b' _ hb') (fun e=>by rw [e,hBo] at hb';cases hb') _,fun k' hk'=>rfl,fun _ _ q=>q,fun b' o' hb'=>⟨Nat.lt_of_lt_of_le (h.ows.lim b' o' hb') hsize,.inl hb'⟩,fun t b' ht=>(by cases ht),fun k' ls hk' hL np'=>?_,
      fun k' _ j=>rfl,fun k' hk' hp=>?_,fun b' k' j s hb' hpt=>.inr fun o' ho'=>h.ows.wr b' k' j s hb' hpt o' ho'⟩ }
  · have hO1 : st.O k' = true /\ k' ≠ k := by
      rcases putO_true.1 hO' with h1 | h1
      · cases h1
      · exact ⟨h1.2,fun e=>h1.1 (by rw [e];exact hkg)⟩
    exact ⟨hO1.1,rfl,fun b' hb'=>hKp b' (h.blkS k' b' hO1.1 hb') (hBk k' hO1.1 hO1.2 b' hb') _⟩
  · show (if k'=d then (B,0) else g.ρ k')=g.ρ k'
    rw [if_neg fun e=>by rw [e,hd4] at hL;cases hL]
  · show (if k'=d then (B,0) else g.ρ k')=g.ρ k' \/ _
    by_cases hkd:k'=d
    · subst hkd
      exact .inr ⟨hd4,_,List.mem_singleton.2 rfl⟩
    · rw [if_neg hkd];exact .inl rfl
  · show Value.slice _ _ _=.slice (some ⟨(if d=d then (B,0) else g.ρ d).1,(if d=d then (B,0) else g.ρ d).2,none⟩) _ _
    rw [if_pos rfl]
  · simp only [List.mem_singleton,Prod.mk.injEq] at hk'
    obtain ⟨rfl,rfl⟩:=hk'
    show LocOk F _ w' _ _ (if k'=k' then (B,0) else g.ρ k')
    rw [if_pos rfl]
    have hcl:cur.toList.length=cap:=by simpa using hsz
    have hsl:sizeLs [Leaf.d (.arr (List.length (α:=Int) l) (.int q)) l]=List.length (α:=Int) l:=by
      show List.length (α:=Int) l*1+0=_
      omega
    refine ⟨cur,(E0,(0,0)),hb,?_,?_,fun o _ ho=>⟨hC0 o,hW o⟩,.inl rfl⟩
    · rw [hsl]
      show 0+_<=_
      omega
    · rw [hsl,List.drop_zero]
      refine repLs_single.2 ⟨rfl,?_,fun i x hx=>?_⟩
      · show ((cur.toList.take _).length)=List.length (α:=Int) l*1
        rw [List.length_take,hcl];omega
      · obtain ⟨h1,h2⟩:=hel i x hx
        have hi:i < List.length (α:=Int) l:=(List.getElem?_eq_some_iff.1 hx).1
        refine ⟨?_,h2⟩
        show ((cur.toList.take _).drop (i*1)).take 1=[Value.int q x]
        have hcur:i < cur.toList.length:=(List.getElem?_eq_some_iff.1 h1).1
        rw [Nat.mul_one,List.drop_take,List.take_take,List.drop_eq_getElem_cons hcur,(List.getElem?_eq_some_iff.1 h1).2,Nat.min_eq_left (by omega)]
        rfl
  · simp only [List.mem_singleton,Prod.mk.injEq] at hk'
    obtain ⟨rfl,rfl⟩:=hk'
    show (w.heap.size<=(if k'=k' then (B,0) else g.ρ k').1 \/ ∃ k0,k0∈gone1 k /\ st.O k0=true /\ g.blk k0=some (if k'=k' then (B,0) else g.ρ k').1) /\ _
    rw [if_pos rfl]
    refine ⟨?_,fun t b' ht=>(by cases ht),fun k2 ls2 hk2 _ _=>?_⟩
    · rcases hB with hB | hB
      · exact .inr ⟨k,hkg,hO,by rw [hk,hB]⟩
      · exact .inl hB
    · simp only [List.mem_singleton,Prod.mk.injEq] at hk2
      exact hk2.1
  · simp only [List.mem_singleton,Prod.mk.injEq] at hk'
    rw [hk'.1,hd5] at hp;cases hp
  · simp only [List.mem_singleton,Prod.mk.injEq] at hk'
    obtain ⟨rfl,rfl⟩:=hk'
    show g.ow (if k'=k' then (B,0) else g.ρ k').1=none
    rw [if_pos rfl]
    exact hBo
  · simp only [List.map_cons,List.map_nil,List.mem_singleton] at hk'
    rw [hk',hd5] at hp;cases hp
theorem zero_cell {q:IntKind} {z:Value} (h:zeroC (.int q) z.cells.toList=true):z.cells = #[.int q 0]:=by
 have hz:z.cells.toList=[.int q 0]:=by
  have:=RepD.zero (w:=default) (C:=⟨fun _ _=>False,fun _ _=>none⟩) h
  exact this.1
 exact Array.toList_inj.1 hz
theorem zeroCells_one (v:Value) (n:Nat):(Builtin.zeroCells #[v] n).toList=List.replicate n v:=by
 apply List.ext_getElem?
 intro i
 simp [Builtin.zeroCells,List.getElem?_replicate]
 by_cases hi:i < n
 ·rw [if_pos hi];simp [hi,Nat.mod_one]
 ·rw [if_neg hi];simp [hi]
theorem go_appZ (h:MRel F g st (tm a) w) {x y:Operand} {t u:TypeId} (hop:o.op=.call { callee:=.builtin .append,args:=#[x,y],argTypes:=#[t,u] }) {d:Nat} (hd:o.dst=some d) {E0:TypeId} {l:List Int} {q:IntKind} {k:Tok} (hx:RelP F g w st.O (tm a) (a.eval x) (.un E0 l q k)) {p:PV} (hy:RelP F g w st.O (tm a) (a.eval y) p)
  (hv:appZ E.P d t u st E0 l q k p C=some r):Goes E F g st a w o C r:=by
 unfold appZ at hv
 split at hv
 case h_2=>cases hv
 rename_i e kn n ht hu hn
 split at hv
 case h_2=>cases hv
 rename_i i hb hi
 split at hv
 case h_2=>cases hv
 rename_i z hz
 split at hv
 case h_2=>cases hv
 rename_i hzc
 obtain ⟨hc,hv⟩:=chk_some hv
 simp only [Bool.and_eq_true,decide_eq_true_eq] at hc hb hzc
 obtain ⟨⟨hbE,hO⟩,hfd⟩:=hb
 have hbE:=Nat.eq_of_beq_eq_true hbE
 subst hbE
 have hsize:i.size=1:=Nat.eq_of_beq_eq_true hzc.2
 have hzcell:=zero_cell hzc.1
 obtain ⟨⟨hn0,hbytes⟩,hmax⟩:=hc
 obtain ⟨N,rfl⟩:∃ N:Nat,n=(N:Int):=⟨n.toNat,by omega⟩
 simp only [Int.toNat_natCast] at hbytes hmax hv
 obtain ⟨ik,hye,_⟩:=int_rel hn hy
 obtain ⟨b,cap,cur,hxe,hblk,hheap,hle,hcap,hsz,hel,hC0,hW⟩:=hx hO
 have hlt:b < w.heap.size:=h.blkS k b hO hblk
 obtain ⟨cb,hrb⟩:=run_builtin (P:=E.P) (w:=w) (f:=a.eval) hop
 have hzl:(Builtin.zeroCells z.cells N).toList=List.replicate N (Value.int q 0):=by rw [hzcell];exact zeroCells_one _ _
 have hwrap:IntKind.i64.wrap (N:Int)=N:=by rw [IntKind.wrap_i64];omega
 have hwf0:(Lit.int q 0).wf=true:=by cases q <;> rfl
 have hlen:(l++List.replicate N (0:Int)).length=l.length+N:=by simp
 have hcur:cur.toList.length=cap:=by simpa using hsz
 have hel2:∀ {cur':Array Value},(∀ o,o < l.length->cur'[o]? = cur[o]?)->(∀ o,l.length<=o->o < l.length+N->cur'[o]? = some (.int q 0)) -> ∀ (i:Nat) (x:Int),(l++List.replicate N (0:Int))[i]? = some x->cur'.toList[i]? = some (.int q x) /\ (Lit.int q x).wf=true:=fun {cur'} h1 h2 i x hx=>by
  rw [Array.getElem?_toList]
  by_cases hil:i < l.length
  ·rw [List.getElem?_append_left hil] at hx
   obtain ⟨q1,q2⟩:=hel i x hx
   rw [h1 i hil,<- Array.getElem?_toList]
   exact ⟨q1,q2⟩
  ·rw [List.getElem?_append_right (by omega),List.getElem?_replicate] at hx
   split at hx
   ·cases hx
    exact ⟨h2 i (by omega) (by omega),hwf0⟩
   ·cases hx
 by_cases hroom:l.length+N<=cap
 ·have hone:(List.replicate N (Value.int q 0)).all one=true:=List.all_eq_true.2 fun u hu=>by rw [(List.mem_replicate.1 hu).2];rfl
  obtain ⟨w',cur',s1,s2,s3,s4,s5,s6,s7,s8,s9⟩:=run_storeCells_row (P:=E.P) (List.replicate N (Value.int q 0)) w b l.length 0 cur e hheap (by rw [List.length_replicate,hsz];omega) (fun o _=>.inr (Nat.zero_le o)) hone
  have hr:(Builtin.append_ #[t,u] o.type #[.slice (some ⟨b,0,none⟩) l.length cap,.int ik N]).run E.P w=.ok (.slice (some ⟨b,0,none⟩) (l.length+N) cap) w':=by
   have hneg:¬ ((N:Int) < 0):=by omega
   have h48:¬ (281474976710656 < (N:Int)*(i.bytes:Int)):=by
    have:N*i.bytes<=(l.length+N)*i.bytes:=Nat.mul_le_mul_right _ (by omega)
    rw [<-Int.natCast_mul]
    omega
   by_cases hN0:N=0
   ·subst hN0
    have s1':(storeCells ⟨b,l.length,none⟩ [] 0).run E.P w=.ok () w':=s1
    have hw0:IntKind.i64.wrap (0:Int)=0:=by decide
    simp [Builtin.append_,run_underlying ht,run_underlying hu,sizeOf,typeInfo,hi,asInt,asIntOf,hw0,hsize,hle,add_at,s1']
   ·simp [Builtin.append_,run_underlying ht,run_underlying hu,sizeOf,typeInfo,zeroValue,hi,hz,asInt,asIntOf,hwrap,hneg,h48,hsize,hN0,hroom,add_at,hzl,s1]
  obtain ⟨hF,hG⟩:=write_block h.fr hheap s2 s3 s5 s6 s7 s8 s9 fun o=>by
   rw [s4 o]
   by_cases hin:l.length+0<=o /\ o < l.length+0+(List.replicate N (Value.int q 0)).length
   ·exact .inr ⟨hC0 o,hW o⟩
   ·rw [if_neg hin];exact .inl rfl
  obtain ⟨g',hU⟩:=out_unRow (l:=l++List.replicate N (0:Int)) (q:=q) (cap:=cap) h hfd hO hblk (.inl rfl) s2 (s3.trans hsz) (by rw [hlen];exact hroom) hcap (hel2 (fun o ho=>by rw [s4,if_neg (by omega)]) fun o h1 h2=>by
   rw [s4,if_pos ⟨by omega,by rw [List.length_replicate];omega⟩,List.getElem?_replicate,if_pos (by omega)]) hF hG (fun b' _ hne=>s5 b' hne) (by rw [s6];exact Nat.le_refl _) hC0 hW
  rw [hlen] at hU
  have hres:(execOp a.eval o).run E.P w=.ok (.value (.slice (some ⟨b,0,none⟩) (l.length+N) cap)) w':=by
   rw [hrb]
   simp [builtin,hxe,hye,hr]
  exact goes_val hres hU hv
 ·have hN:0 < N:=by omega
  have hg:cap < l.length+N:=by omega
  have hold:(Builtin.firstCells i.size l.length (.slice (some ⟨b,0,none⟩) l.length cap)).run E.P w.drew=.ok (cur.toList.take l.length).toArray w.drew:=by
   have hl:(cur.toList.take l.length).length=l.length:=by rw [List.length_take,hcur];omega
   have:=run_loadCells_list (P:=E.P) w.drew ⟨b,0,none⟩ (cur.toList.take l.length) (fun j u hj=>by
    rw [add_at,Nat.zero_add]
    show w.cell? ⟨b,j,none⟩=some u
    rw [cell_at hheap]
    rw [List.getElem?_take] at hj
    split at hj
    ·rw [<-Array.getElem?_toList];exact hj
    ·cases hj)
   rw [hl] at this
   simp [Builtin.firstCells,hsize,this]
  have hr:=Lib.run_append_grow_zeros (P:=E.P) w t u o.type e i z ik kn ht hu hi hz (some ⟨b,0,none⟩) l.length cap (cur.toList.take l.length) hold N hN (by omega) hg (by omega) (Nat.le_trans (Nat.mul_le_mul_right _ (by omega)) (Nat.le_trans hbytes (by decide))) (growslice_fits hg hbytes)
  have hge:=grownCap_ge w (l.length+N) cap e
  have hcm:grownCap w (l.length+N) cap e<=maxLen:=grownCap_le_maxLen w (l.length+N) cap e (by unfold maxLen;omega)
  have hzc1:∀ n,(Builtin.zeroCells z.cells n).size=n:=fun n=>by rw [size_zeroCells,hzcell];simp
  have hzl':∀ n,(Builtin.zeroCells z.cells n).toList=List.replicate n (Value.int q 0):=fun n=>by rw [hzcell];exact zeroCells_one _ _
  have hl:(cur.toList.take l.length).length=l.length:=by rw [List.length_take,hcur];omega
  have hgr:w.grownBy (w.drew.alloc (.cells ((cur.toList.take l.length).toArray++Builtin.zeroCells z.cells N++Builtin.zeroCells z.cells (grownCap w (l.length+N) cap e - (l.length+N))) e)) none:=⟨rfl,rfl,rfl,by simp,fun k hk _=>heap_alloc_old w.drew _ k hk⟩
  have hnew:=heap_alloc_new w.drew (.cells ((cur.toList.take l.length).toArray++Builtin.zeroCells z.cells N++Builtin.zeroCells z.cells (grownCap w (l.length+N) cap e - (l.length+N))) e)
  have hold':∀ b',b' < w.heap.size->(w.drew.alloc (.cells ((cur.toList.take l.length).toArray++Builtin.zeroCells z.cells N++Builtin.zeroCells z.cells (grownCap w (l.length+N) cap e - (l.length+N))) e)).heap[b']? = w.heap[b']?:=fun b' hb'=>hgr.block b' hb' (by simp)
  have G:Grew w g.C (w.drew.alloc (.cells ((cur.toList.take l.length).toArray++Builtin.zeroCells z.cells N++Builtin.zeroCells z.cells (grownCap w (l.length+N) cap e - (l.length+N))) e)) g.C:=⟨hgr.size,hold',hgr.os,hgr.tape,hgr.output,fun _ _ _=>Iff.rfl,fun b o hc=>Nat.lt_of_lt_of_le (h.fr.lim b o hc) hgr.size,fun _ _ _ q=>q⟩
  obtain ⟨g',hU⟩:=out_unRow (l:=l++List.replicate N (0:Int)) (q:=q) (cap:=grownCap w (l.length+N) cap e) h hfd hO hblk (.inr (Nat.le_refl _)) hnew
   (by simp only [Array.size_append,List.size_toArray,hzc1,hl];omega) (by rw [hlen];exact hge) hcm (hel2 (fun o ho=>by
    rw [<-Array.getElem?_toList,<- Array.getElem?_toList]
    simp only [Array.toList_append,List.append_assoc]
    rw [List.getElem?_append_left (by rw [hl];exact ho),List.getElem?_take,if_pos ho]) fun o h1 h2=>by
    rw [<-Array.getElem?_toList]
    simp only [Array.toList_append,List.append_assoc]
    rw [List.getElem?_append_right (by rw [hl];exact h1),hl,hzl',List.getElem?_append_left (by rw [List.length_replicate];omega),List.getElem?_replicate,if_pos (by omega)]) (h.fr.grew G) G.gw (fun b' hb' _=>hold' b' hb') hgr.size (fun o hc=>by
    have:=h.fr.lim _ _ hc
    exact Nat.lt_irrefl _ this) (fun o=>.inl h.fr.size)
  rw [hlen] at hU
  obtain ⟨W1,hW1⟩:∃ W1,W1=w.drew.alloc (.cells ((cur.toList.take l.length).toArray++Builtin.zeroCells z.cells N++Builtin.zeroCells z.cells (grownCap w (l.length+N) cap e - (l.length+N))) e):=⟨_,rfl⟩
  rw [<-hW1] at hr hU
  have hres:(execOp a.eval o).run E.P w=.ok (.value (.slice (some ⟨w.heap.size,0,none⟩) (l.length+N) (grownCap w (l.length+N) cap e))) W1:=by
   rw [hrb]
   simp [builtin,hxe,hye,hr]
  exact goes_val hres hU hv
theorem go_append (h:MRel F g st (tm a) w) {args:Array Operand} {ts:Array TypeId} (hop:o.op=.call { callee:=.builtin .append,args:=args,argTypes:=ts }) (hv:pvU E o st (evK st.kn st.φ) C=some r):Goes E F g st a w o C r:=by
 simp only [pvU,hop] at hv
 unfold bltP at hv
 split at hv
 ·cases hv
 case h_3=>cases hv
 rename_i x y t u hargs hts
 obtain rfl:args = #[x,y]:=by cases args;simp_all
 obtain rfl:ts = #[t,u]:=by cases ts;simp_all
 simp only at hv
 unfold appB at hv
 split at hv
 ·rename_i d hd
  split at hv
  ·split at hv
   ·rename_i E' l q k he
    have hx:=ev_rel h x
    rw [he] at hx
    exact go_appZ h hop hd hx (ev_rel h y) hv
   ·intro N Q hN
    refine go_appL h hop hv N Q fun v w' g' u hC hU=>?_
    obtain ⟨u',g'',h1,h2⟩:=un_out h hU hC
    exact hN v w' g'' u' h1 h2
  ·exact go_appL h hop hv
 ·exact go_appL h hop hv
end
end Pv
end Go.Proofs.YtifbhefbhlbofaaDoor
namespace Go.Proofs.YtifbhefbhlbofaaDoor
open Go.MapKept
namespace Pv
set_option linter.unusedVariables false
theorem eqI_iff {x y:Int}:eqI x y=true↔x=y:=by unfold eqI;exact beq_iff_eq
theorem nodup_at {α:Type} {l:List α} (h:l.Nodup) {i j:Nat} (hi:i < l.length) (hj:j < l.length) (e:l[i]=l[j]):i=j:=by
 have hp:=List.pairwise_iff_getElem.1 h
 rcases Nat.lt_trichotomy i j with hlt | he | hlt
 ·exact (hp i j hi hj hlt e).elim
 ·exact he
 ·exact (hp j i hj hi hlt e.symm).elim
theorem mapGet_spec {α:Type} (n:Int):∀ (l:List (Int×α)),(mapGet l n=none /\ (∀ p∈l,p.1≠n) /\ ∀ v,mapSet l n v=l++[(n,v)]) \/ ∃ (i:Nat) (x:α),l[i]? = some (n,x) /\ mapGet l n=some x /\ ∀ v,mapSet l n v=l.set i (n,v)
  | []=>.inl ⟨rfl,fun p hp=>by (cases hp),fun v=>rfl⟩
  | (k,x)::r=>by
    by_cases h:k=n
    · refine .inr ⟨0,x,by rw [<-h];rfl,?_,fun v=>?_⟩
      · show cond (eqI k n) (some x) (mapGet r n)=_
        rw [eqI_iff.2 h];rfl
      · show cond (eqI k n) ((n,v)::r) ((k,x)::mapSet r n v)=_
        rw [eqI_iff.2 h];rfl
    · have hf : eqI k n = false := by
        cases hq:eqI k n with
        | false=>rfl
        | true=>exact (h (eqI_iff.1 hq)).elim
      have e1:mapGet ((k,x)::r) n=mapGet r n:=by
        show cond (eqI k n) (some x) (mapGet r n)=_
        rw [hf];rfl
      have e2:∀ v,mapSet ((k,x)::r) n v=(k,x)::mapSet r n v:=fun v=>by
        show cond (eqI k n) ((n,v)::r) ((k,x)::mapSet r n v)=_
        rw [hf];rfl
      rcases mapGet_spec n r with ⟨h1,h2,h3⟩ | ⟨i,y,h1,h2,h3⟩
      · refine .inl ⟨e1.trans h1,fun p hp=>?_,fun v=>by rw [e2,h3];rfl⟩
        rcases List.mem_cons.1 hp with hp | hp
        · rw [hp];exact h
        · exact h2 p hp
      · exact .inr ⟨i+1,y,by simpa using h1,e1.trans h2,fun v=>by rw [e2,h3];rfl⟩
section
variable {E : Env} {F : Fr} {g g' : Gh} {st : PSt} {a : Act} {w w' : World} {o : Oper} {R : Type} {C : Upd -> Option R} {r : R} {tmf : Nat -> Value} {O : Tok -> Bool} {P : Program} {u : Upd} {v : Value}
theorem EntOk.at {D:Com} {k:IntKind} {vt:Ty} {l:List (Int×vt.D)} {es:List MapEntry} {clock:Nat} (h:EntOk w D (.int k) vt l es clock) {i:Nat} {m:MapEntry} (hm:es[i]? = some m) :
  ∃ x:Int×vt.D,l[i]? = some x /\ m.key=.int k x.1 /\ (Lit.int k x.1).wf=true /\ RepD w D vt x.2 [m.val] /\ m.born < clock:=by
 have hl:es.length=List.length (α:=Int×vt.D) l:=h.1
 have hi:i < List.length (α:=Int×vt.D) l:=by rw [<-hl];exact (List.getElem?_eq_some_iff.1 hm).1
 obtain ⟨⟨h1,h2⟩,h3,h4⟩:=h.2.1 i l[i] m (List.getElem?_eq_getElem hi) hm
 injection h1 with h1
 exact ⟨l[i],List.getElem?_eq_getElem hi,h1,h2,h3,h4⟩
theorem EntOk.keys {D:Com} {k:IntKind} {vt:Ty} {l:List (Int×vt.D)} {es:List MapEntry} {clock:Nat} (h:EntOk w D (.int k) vt l es clock):∀ x∈es,IsKey (.int k) x.key:=fun m hm=>by
 obtain ⟨i,hi⟩:=List.mem_iff_getElem?.1 hm
 obtain ⟨x,_,h2,_⟩:=h.at hi
 rw [h2]
 exact rfl
theorem EntOk.find {D:Com} {k:IntKind} {vt:Ty} {l:List (Int×vt.D)} {es:List MapEntry} {clock:Nat} (h:EntOk w D (.int k) vt l es clock) (n:Int) :
  (Instr.findNow (.int k) (.int k n) es 0=some none /\ mapGet l n=none /\ (∀ x∈es,x.key≠.int k n) /\ (∀ p∈l,p.1≠n) /\ ∀ v,mapSet l n v=l++[(n,v)]) \/
  ∃ (i:Nat) (m:MapEntry) (x:vt.D),Instr.findNow (.int k) (.int k n) es 0=some (some (i,m.val)) /\ es[i]? = some m /\ m.key=.int k n /\ l[i]? = some (n,x) /\ mapGet l n=some x /\ RepD w D vt x [m.val] /\ ∀ v,mapSet l n v=l.set i (n,v):=by
 rcases findNow_spec (d:=.int k) (k:=.int k n) rfl es 0 h.keys with ⟨h1,h2⟩ | ⟨i,m,h1,h2,h3⟩
 ·refine .inl ?_
  rcases mapGet_spec n l with ⟨g1,g2,g3⟩ | ⟨i,x,g1,g2,g3⟩
  ·exact ⟨h1,g1,h2,g2,g3⟩
  ·exfalso
   have hl:es.length=List.length (α:=Int×vt.D) l:=h.1
   have hi:i < es.length:=by rw [hl];exact (List.getElem?_eq_some_iff.1 g1).1
   obtain ⟨y,q1,q2,_⟩:=h.at (List.getElem?_eq_getElem hi)
   rw [g1] at q1
   cases q1
   exact h2 _ (List.getElem_mem hi) q2
 ·refine .inr ?_
  rw [Nat.zero_add] at h1
  obtain ⟨y,q1,q2,q3,q4,q5⟩:=h.at h2
  rw [q2] at h3
  injection h3 with _ h3
  rcases mapGet_spec n l with ⟨g1,g2,g3⟩ | ⟨j,x,g1,g2,g3⟩
  ·exact (g2 y (List.mem_of_getElem? q1) h3).elim
  ·have hnd:=h.2.2.2
   have hij:i=j:=by
    have e1:(l.map (·.1))[i]? = some n:=by rw [List.getElem?_map,q1];simp [h3]
    have e2:(l.map (·.1))[j]? = some n:=by rw [List.getElem?_map,g1];rfl
    have hi:=(List.getElem?_eq_some_iff.1 e1)
    have hj:=(List.getElem?_eq_some_iff.1 e2)
    obtain ⟨hi1,hi2⟩:=hi
    obtain ⟨hj1,hj2⟩:=hj
    exact nodup_at hnd hi1 hj1 (hi2.trans hj2.symm)
   subst hij
   rw [q1] at g1
   cases g1
   exact ⟨i,m,x,h1,h2,q2,q1,g2,q4,g3⟩
theorem map_at (h:MRel F g st tmf w) {M v:Nat} {b:Bool} {k:IntKind} {vt:Ty} {l:List (Ty.sl (.pr (.int k) vt)).D} (hp:poolL st.L (mk M)=some (b,v,⟨.sl (.pr (.int k) vt),l⟩)) {m:Int} {es:List (Int×vt.D)} (hx:getI (α:=List (Int×vt.D)) l m=some es) {u:Value}
  (hu:RelP F g w O tmf u (.w false [.d (.mp M) m])):∃ (n blk:Nat) (ens:Array MapEntry) (clock:Nat),m=(n:Int) /\ l[n]? = some es /\ u=.map (some blk) /\ g.C.i (mk M) n=some blk /\ g.ow blk=some (mk M,n,none) /\ w.heap[blk]? = some (.map ens clock) /\ (∀ o,¬ g.C blk o) /\
   EntOk w g.C (.int k) vt es ens.toList clock:=by
 obtain ⟨p,hp1,hp2⟩:=rel_leaf.1 hu
 obtain ⟨h0,hget,_⟩:=getI_some hx
 rcases hp1 with ⟨e1,_⟩ | ⟨n,blk,rfl,hi,rfl⟩
 ·exfalso;have e1:m = -1:=e1;omega
 have hget':l[n]? = some es:=hget
 obtain ⟨_,_,h3⟩:=pool_at h hp (isPool_mk M)
 have h4:=h3 n es hget'
 unfold ItemOk at h4
 rw [isMapK_mk] at h4
 obtain ⟨b',ens,clock,q1,q2,q3,q4,q5⟩:=h4
 rw [hi] at q1
 cases q1
 injection hp2 with hp2
 exact ⟨n,blk,ens,clock,rfl,hget',hp2,hi,q2,q3,q4,q5⟩
theorem intT_some {t:TypeId} {k:IntKind} (h:intT P t k=true):P.underlying t=some (.int k):=by
 unfold intT at h
 split at h
 ·rename_i k' hk
  rw [hk,ikEq_eq h]
 ·cases h
theorem go_lookup (h:MRel F g st (tm a) w) {t:TypeId} {x i:Operand} {c:Bool} (hop:o.op=.lookup t x i c) (hv:pvU E o st (evK st.kn st.φ) C=some r):Goes E F g st a w o C r:=by
 simp only [pvU,hop] at hv
 have hx:=ev_rel h x
 have hi:=ev_rel h i
 split at hv
 case h_2=>cases hv
 rename_i kt et M m kk n ht hx' hi'
 rw [hx'] at hx
 rw [hi'] at hi
 split at hv
 case h_2=>cases hv
 rename_i hb
 rw [Bool.and_eq_true] at hb
 have hM:=Nat.eq_of_beq_eq_true hb.1
 subst hM
 have hkt:=intT_some hb.2
 obtain ⟨hie,_⟩:=rel_int hi
 unfold lookP at hv
 split at hv
 case h_2=>cases hv
 rename_i b v k vt l inf hp hinf
 split at hv
 case h_2=>cases hv
 rename_i z hk hz
 rw [Bool.and_eq_true] at hk
 have hk1:=ikEq_eq hk.1
 subst hk1
 split at hv
 case h_2=>cases hv
 rename_i hzc
 obtain ⟨es,hes,hv2⟩:=Option.bind_eq_some_iff.1 hv
 clear hv
 obtain ⟨nn,blk,ens,clock,rfl,hget,hxu,hCi,how,hheap,hC0,hent⟩:=map_at h hp hes hx
 have hzr:RepD w g.C vt (zeroD vt) [z]:=RepD.zero hzc
 have hzv:(zeroValue et).run E.P w=.ok z w:=by simp [zeroValue,typeInfo,hinf,hz]
 rcases hent.find n with ⟨h1,h2,_⟩ | ⟨j,me,y,h1,h2,h3,h4,h5,h6,_⟩
 ·rw [h2] at hv2
  have hrun:(Instr.lookup M (a.eval x) (a.eval i) c).run E.P w=.ok (if c then .tuple #[z,.bool false] else z) w:=by
   rw [hxu,hie]
   simp [Instr.lookup,run_underlying ht,Go.MapKept.run_getObj_map hheap,run_checkKey (k:=.int k n) hkt rfl,run_findKey hkt h1,hzv,Result.andThen]
  have hex:(execOp a.eval o).run E.P w=.ok (.value (if c then .tuple #[z,.bool false] else z)) w:=by
   simp [execOp,hop,hrun,Result.andThen]
  cases c with
  | false=>exact goes_same h hex (rel_leaf.2 hzr) (fun _ _ _ _ e=>by cases e) hv2
  | true=>
   have hq:RelP F g w st.O (tm a) (.tuple #[z,.bool false]) (.tup [(false,[.d vt (zeroD vt)]),(false,[.d .bool false])]):=⟨[z,.bool false],rfl,⟨[z],repLs_single.2 hzr,rfl⟩,⟨[.bool false],repLs_single.2 rfl,rfl⟩,trivial⟩
   exact goes_same h hex hq (fun _ _ _ _ e=>by cases e) hv2
 ·rw [h5] at hv2
  have hrun:(Instr.lookup M (a.eval x) (a.eval i) c).run E.P w=.ok (if c then .tuple #[me.val,.bool true] else me.val) w:=by
   rw [hxu,hie]
   simp [Instr.lookup,run_underlying ht,Go.MapKept.run_getObj_map hheap,run_checkKey (k:=.int k n) hkt rfl,run_findKey hkt h1,hzv,Result.andThen]
  have hex:(execOp a.eval o).run E.P w=.ok (.value (if c then .tuple #[me.val,.bool true] else me.val)) w:=by
   simp [execOp,hop,hrun,Result.andThen]
  cases c with
  | false=>exact goes_same h hex (rel_leaf.2 h6) (fun _ _ _ _ e=>by cases e) hv2
  | true=>
   have hq:RelP F g w st.O (tm a) (.tuple #[me.val,.bool true]) (.tup [(false,[.d vt y]),(false,[.d .bool true])]):=⟨[me.val,.bool true],rfl,⟨[me.val],repLs_single.2 h6,rfl⟩,⟨[.bool true],repLs_single.2 rfl,rfl⟩,trivial⟩
   exact goes_same h hex hq (fun _ _ _ _ e=>by cases e) hv2
theorem out_map (h:MRel F g st (tm a) w) {M v:Nat} {k:IntKind} {vt:Ty} {l:List (Ty.sl (.pr (.int k) vt)).D} (hp:poolL st.L (mk M)=some (true,v,⟨.sl (.pr (.int k) vt),l⟩)) {n blk:Nat} {es es':(Ty.sl (.pr (.int k) vt)).D} {ens ens':Array MapEntry} {clock clock':Nat} (hget:l[n]? = some es)
  (hi:g.C.i (mk M) n=some blk) (how:g.ow blk=some (mk M,n,none)) (hb:w.heap[blk]? = some (.map ens clock)) (hC0:∀ o,¬ g.C blk o) (hent:EntOk w g.C (.int k) vt es' ens'.toList clock') :
  OutR F g st w (setP (mk M) v (.sl (.pr (.int k) vt)) l (n:Int) es' []) undef ⟨g.C,g.blk,g.ρ,g.H,g.ow,bump g.ver (mk M) (v+1)⟩ { w with heap:=w.heap.setIfInBounds blk (.map ens' clock') }:=by
 obtain ⟨hv1,hv2,hitems⟩:=pool_at h hp (isPool_mk M)
 obtain ⟨hver,hPT⟩:=hv1 rfl
 have hnl:n < l.length:=(List.getElem?_eq_some_iff.1 hget).1
 obtain ⟨hs1,hs2⟩:=heap_set (o':=.map ens' clock') hb
 have hW:∀ o,Wr F blk o:=fun o=>h.ows.wr blk _ _ _ how hPT o (hC0 o)
 have hcellne:∀ ad u,w.cell? ad=some u->ad.block≠blk:=fun ad u hc e1=>by
  unfold World.cell? at hc
  rw [e1,hb] at hc
  cases hc
 have hcell:∀ (ad:Addr),ad.block≠blk->World.cell? { w with heap:=w.heap.setIfInBounds blk (.map ens' clock') } ad=w.cell? ad:=fun ad hne=>by
  unfold World.cell?
  dsimp only
  rw [hs2 _ hne]
 have G:Gw w g.C { w with heap:=w.heap.setIfInBounds blk (.map ens' clock') } g.C:=⟨fun ad u hc hC=>⟨(hcell ad (hcellne ad u hc)).trans hc,hC⟩,fun _ _ _ q=>q⟩
 have hsz:({ w with heap:=w.heap.setIfInBounds blk (.map ens' clock') }:World).heap.size=w.heap.size:=by simp
 have hF:=h.fr
 have F1:Frame F g.C { w with heap:=w.heap.setIfInBounds blk (.map ens' clock') }:=by
  refine ⟨by rw [hsz];exact hF.size,hF.os,hF.tape,hF.output,fun b hlt hx=>?_,fun b cs T f hlt hc=>?_,hF.com,hF.mono,hF.imono,fun b o hc=>by rw [hsz];exact hF.lim b o hc⟩
  ·by_cases e1:b=blk
   ·exfalso
    rcases hW 0 with q | q
    ·omega
    ·rw [e1] at hx;exact hx 0 q
   ·exact (hs2 b e1).trans (hF.old b hlt hx)
  ·obtain ⟨cs',f',q1,q2,q3⟩:=hF.shape b cs T f hlt hc
   by_cases e1:b=blk
   ·rw [e1,hb] at q1;cases q1
   ·exact ⟨cs',f',(hs2 b e1).trans q1,q2,q3⟩
 have hkp:∀ b,b≠blk->Kp g w ⟨g.C,g.blk,g.ρ,g.H,g.ow,bump g.ver (mk M) (v+1)⟩ { w with heap:=w.heap.setIfInBounds blk (.map ens' clock') } b:=fun b hne=>⟨hs2 b hne,fun _=>Iff.rfl⟩
 have hneN:∀ b,g.ow b=none->b≠blk:=fun b hq e1=>by rw [e1,how] at hq;cases hq
 have hneq:∀ b q,g.ow b=some q->q≠(mk M,n,none)->b≠blk:=fun b q hq hne e1=>by
  rw [e1,how] at hq
  exact hne (Option.some.inj hq).symm
 refine ⟨F1,G,fun t _ hO=>?_,fun _ _ _=>rfl,fun _=>.inl rfl,rfl,fun _=>rfl,fun _ _ _ _ e=>by (cases e),fun k' l2 hm hnp=>?_,fun j y hj np _=>hkp _ (hneN _ (h.ows.loc j y hj np)),h.blk0,fun _ _ hm=>by (cases hm),fun _ _ _ hm=>by (cases hm),fun k' l2 hm hn=>?_,
  ⟨fun k' l2 hm _=>?_,fun b k' j s' hbo hnm=>?_,fun k' hnm=>bump_ne fun e1=>hnm (by rw [e1];exact List.mem_singleton.2 rfl),fun b q hq=>hq,fun b q hq=>⟨by rw [hsz];exact h.ows.lim b q hq,.inl hq⟩,fun _ _ hm=>by (cases hm),fun k' l2 hm _ hnp=>?_,fun k' _ j=>rfl,fun k' hm _=>?_,fun b k' j s' hbo hpt=>.inr fun o hn=>h.ows.wr b k' j s' hbo hpt o hn⟩⟩
 ·obtain ⟨hng,hO⟩:t ∉ ([]:List Tok) /\ st.O t=true:=(putO_true.1 hO).resolve_left (by intro hm;cases hm)
  exact ⟨hO,rfl,fun b hbl=>hkp b (hneN b (h.ows.tok t b hO hbl))⟩
 ·have e1:=(Prod.mk.inj (List.mem_singleton.1 hm)).1
  rw [e1,isPool_mk] at hnp;cases hnp
 ·have e1:=(Prod.mk.inj (List.mem_singleton.1 hm)).1
  obtain ⟨σ,hh⟩:=poolL_some hp
  rw [e1] at hn
  rcases hh with ⟨_,hh⟩ | ⟨hh,_⟩
  ·rw [hn] at hh;cases hh
  ·cases hh
 ·obtain ⟨rfl,rfl⟩:=Prod.mk.inj (List.mem_singleton.1 hm)
  refine ⟨⟨.sl (.pr (.int k) vt),l.set n es',.inl ⟨v+1,rfl,bump_at,hPT⟩,fun j b hjb=>?_,fun j y hy=>?_⟩,?_⟩
  ·exact Nat.lt_of_lt_of_eq (hv2 j b hjb) (List.length_set (as:=l)).symm
  ·have hy2:(List.set l n es')[j]? = some y:=hy
   clear hy
   rw [set_get hnl] at hy2
   by_cases hj:n=j
   ·rw [if_pos hj] at hy2
    subst hj
    cases hy2
    unfold ItemOk
    rw [isMapK_mk]
    exact ⟨blk,ens',clock',hi,how,hs1,hC0,hent.1,fun i x m hx hm=>by
     obtain ⟨q1,q2,q3⟩:=hent.2.1 i x m hx hm
     exact ⟨q1.gw G,q2.gw G,q3⟩,hent.2.2⟩
   ·rw [if_neg hj] at hy2
    exact (hitems j y hy2).gw G fun b s' hbo=>⟨hkp b (hneq b _ hbo fun e1=>hj (by injection e1 with _ e1;injection e1 with e1 _;exact e1.symm)),hbo⟩
  ·show g.ver (mk M) < bump g.ver (mk M) (v+1) (mk M)
   rw [bump_at,hver];omega
 ·have hk':k'≠mk M:=fun e1=>hnm (by rw [e1];exact List.mem_singleton.2 rfl)
  exact hkp b (hneq b _ hbo fun e1=>hk' (by injection e1))
 ·have e1:=(Prod.mk.inj (List.mem_singleton.1 hm)).1
  rw [e1,isPool_mk] at hnp;cases hnp
 ·have e1:k'=mk M:=List.mem_singleton.1 hm
  rw [e1];exact hPT
theorem EntOk.push {D:Com} {k:IntKind} {vt:Ty} {l:List (Int×vt.D)} {es:Array MapEntry} {clock:Nat} (h:EntOk w D (.int k) vt l es.toList clock) {n:Int} {x:vt.D} {u:Value} (hwf:(Lit.int k n).wf=true) (hu:RepD w D vt x [u]) (hn:∀ p∈l,p.1≠n) :
  EntOk w D (.int k) vt (l++[(n,x)]) (es.push { key:=.int k n,val:=u,born:=clock }).toList (clock+1):=by
 have hl:es.toList.length=List.length (α:=Int×vt.D) l:=h.1
 rw [Array.toList_push]
 refine ⟨?_,fun i y m hy hm=>?_,?_,?_⟩
 ·show (es.toList++[_]).length=List.length (α:=Int×vt.D) (l++[(n,x)])
  rw [List.length_append,List.length_append,hl];rfl
 ·have hy:(l++[(n,x)])[i]? = some y:=hy
  by_cases hi:i < es.toList.length
  ·rw [List.getElem?_append_left hi] at hm
   rw [List.getElem?_append_left (by omega)] at hy
   obtain ⟨q1,q2,q3⟩:=h.2.1 i y m hy hm
   exact ⟨q1,q2,by omega⟩
  ·rw [List.getElem?_append_right (by omega)] at hm hy
   rw [hl] at hm
   cases hd:i - List.length (α:=Int×vt.D) l with
   | zero=>
    rw [hd] at hm hy
    have hm:some _=some m:=hm
    have hy:some _=some y:=hy
    cases hm
    cases hy
    exact ⟨⟨rfl,hwf⟩,hu,by show clock < clock+1;omega⟩
   | succ j=>rw [hd] at hm;simp at hm
 ·rw [List.map_append,List.nodup_append]
  refine ⟨h.2.2.1,by simp,fun b hb c hc=>?_⟩
  simp at hc
  obtain ⟨m,hm,rfl⟩:=List.mem_map.1 hb
  obtain ⟨i,hi⟩:=List.mem_iff_getElem?.1 hm
  obtain ⟨_,_,_,_,_,q⟩:=h.at hi
  omega
 ·show ((l++[(n,x)]).map (·.1)).Nodup
  rw [List.map_append,List.nodup_append]
  refine ⟨h.2.2.2,by simp,fun b hb c hc=>?_⟩
  simp at hc
  obtain ⟨p,hp,rfl⟩:=List.mem_map.1 hb
  rw [hc]
  exact hn p hp
theorem EntOk.put {D:Com} {k:IntKind} {vt:Ty} {l:List (Int×vt.D)} {es:Array MapEntry} {clock:Nat} (h:EntOk w D (.int k) vt l es.toList clock) {i:Nat} {m:MapEntry} {n:Int} {x y:vt.D} {u:Value} (hm:es.toList[i]? = some m) (hk:m.key=.int k n) (hy:l[i]? = some (n,y)) (hu:RepD w D vt x [u]) :
  EntOk w D (.int k) vt (l.set i (n,x)) (es.modify i fun e=>{ e with key:=.int k n,val:=u }).toList clock:=by
 have hl:es.toList.length=List.length (α:=Int×vt.D) l:=h.1
 have hil:i < List.length (α:=Int×vt.D) l:=(List.getElem?_eq_some_iff.1 hy).1
 have hget:∀ j m',(es.modify i fun e=>{ e with key:=.int k n,val:=u }).toList[j]? = some m'->(j=i /\ m'={ m with key:=.int k n,val:=u }) \/ (j≠i /\ es.toList[j]? = some m'):=fun j m' hj=>by
  rw [Array.getElem?_toList,Array.getElem?_modify] at hj
  by_cases e1:i=j
  ·subst e1
   rw [if_pos rfl] at hj
   rw [Array.getElem?_toList] at hm
   rw [hm] at hj
   exact .inl ⟨rfl,(Option.some.inj hj).symm⟩
  ·rw [if_neg e1] at hj
   exact .inr ⟨fun e2=>e1 e2.symm,by rw [Array.getElem?_toList];exact hj⟩
 have hborn:(es.modify i fun e=>{ e with key:=.int k n,val:=u }).toList.map (·.born)=es.toList.map (·.born):=by
  apply List.ext_getElem?
  intro j
  rw [List.getElem?_map,List.getElem?_map,Array.getElem?_toList,Array.getElem?_modify,Array.getElem?_toList]
  by_cases e1:i=j
  ·rw [if_pos e1]
   cases es[j]? <;> rfl
  ·rw [if_neg e1]
 have hkeys:(l.set i (n,x)).map (·.1)=l.map (·.1):=by
  apply List.ext_getElem?
  intro j
  rw [List.getElem?_map,List.getElem?_map,List.getElem?_set]
  by_cases e1:i=j
  ·subst e1
   rw [if_pos rfl,if_pos hil,hy];rfl
  ·rw [if_neg e1]
 refine ⟨?_,fun j z m' hz hm'=>?_,by rw [hborn];exact h.2.2.1,?_⟩
 ·show _=List.length (α:=Int×vt.D) (l.set i (n,x))
  rw [List.length_set,<- hl];simp
 ·have hz:(l.set i (n,x))[j]? = some z:=hz
  rcases hget j m' hm' with ⟨rfl,rfl⟩ | ⟨hne,hm2⟩
  ·rw [set_get hil,if_pos rfl] at hz
   cases hz
   obtain ⟨q1,q2,q3⟩:=h.2.1 j (n,y) m hy hm
   refine ⟨?_,hu,q3⟩
   rw [hk] at q1;exact q1
  ·rw [set_get hil,if_neg (Ne.symm hne)] at hz
   exact h.2.1 j z m' hz hm2
 ·show ((l.set i (n,x)).map (·.1)).Nodup
  rw [hkeys];exact h.2.2.2
theorem go_mapUpdate (h:MRel F g st (tm a) w) {t:TypeId} {x i y:Operand} (hop:o.op=.mapUpdate t x i y) (hv:pvU E o st (evK st.kn st.φ) C=some r):Goes E F g st a w o C r:=by
  simp only [pvU,hop] at hv
  have hx:=ev_rel h x
  have hi:=ev_rel h i
  split at hv
  case h_2=>cases hv
  rename_i kt et M m kk n ht hx' hi'
  have hy:=norm_rel (P:=E.P) (ty:=et) h.blk0 (ev_rel h y)
  rw [hx'] at hx
  rw [hi'] at hi
  split at hv
  case h_2=>cases hv
  rename_i vs hb hvs
  rw [hvs] at hy
  rw [Bool.and_eq_true] at hb
  have hM:=Nat.eq_of_beq_eq_true hb.1
  subst hM
  have hkt:=intT_some hb.2
  obtain ⟨hie,hwf⟩:=rel_int hi
  unfold updP at hv
  split at hv
  case h_2=>cases hv
  rename_i v k vt l hp
  split at hv
  case h_2=>cases hv
  rename_i z hk hz
  rw [Bool.and_eq_true] at hk
  have hk1:=ikEq_eq hk.1
  subst hk1
  obtain ⟨es,hes,hv2⟩:=Option.bind_eq_some_iff.1 hv
  clear hv
  obtain ⟨nn,blk,ens,clock,rfl,hget,hxu,hCi,how,hheap,hC0,hent⟩:=map_at h hp hes hx
  have hzr:RepD w g.C vt z [a.eval y]:=by
    obtain ⟨cs,h1,h2⟩:=hy
    have h2:cs=[a.eval y]:=h2
    subst h2
    exact unflatAll_rep hz h1
  rcases hent.find n with ⟨h1,h2,h3,h4,h5⟩ | ⟨j,me,y',h1,h2,h3,h4,h5,h6,h7⟩
  · have hrun : (Instr.mapUpdate M (a.eval x) (a.eval i) (a.eval y)).run E.P w = .ok () { w with heap := w.heap.setIfInBounds blk (.map (ens.push { key := .int k n, val := a.eval y, born := clock }) (clock + 1)) } := by
      rw [hxu,hie]
      simp [Instr.mapUpdate,run_underlying ht,Go.MapKept.run_getObj_map hheap,run_checkKey (k:=.int k n) hkt rfl,run_findKey hkt h1,run_setObj_map _ hheap,Result.andThen]
    have hent2:EntOk w g.C (.int k) vt (mapSet (α:=vt.D) es n z) (ens.push { key:=.int k n,val:=a.eval y,born:=clock }).toList (clock+1):=by rw [h5 z];exact hent.push hwf hzr h4
    have hU:=out_map (es':=mapSet (α:=vt.D) es n z) h hp hget hCi how hheap hC0 hent2
    exact goes_skip (by simp [execOp,hop,hrun,Result.andThen]) hU hv2
  · have h2':ens[j]? = some me:=by rw [<-Array.getElem?_toList];exact h2
    have hrun:(Instr.mapUpdate M (a.eval x) (a.eval i) (a.eval y)).run E.P w=.ok () { w with heap:=w.heap.setIfInBounds blk (.map (ens.modify j fun e=>{ e with key:=.int k n,val:=a.eval y }) clock) }:=by
      rw [hxu,hie]
      simp [Instr.mapUpdate,run_underlying ht,Go.MapKept.run_getObj_map hheap,run_checkKey (k:=.int k n) hkt rfl,run_findKey hkt h1,run_setObj_map _ hheap,h2',h3,run_keyThatStays (d:=.int k) (k:=.int k n) rfl,Result.andThen]
    have hent2:EntOk w g.C (.int k) vt (mapSet (α:=vt.D) es n z) (ens.modify j fun e=>{ e with key:=.int k n,val:=a.eval y }).toList clock:=by rw [h7 z];exact hent.put h2 h3 h4 hzr
    have hU:=out_map (es':=mapSet (α:=vt.D) es n z) h hp hget hCi how hheap hC0 hent2
    exact goes_skip (by simp [execOp,hop,hrun,Result.andThen]) hU hv2
def nilM (kt vt:Ty):(Ty.sl (.pr kt vt)).D:=List.nil
theorem go_makeMap (h:MRel F g st (tm a) w) {t:TypeId} (hop:o.op=.makeMap t none) (hv:pvU E o st (evK st.kn st.φ) C=some r):Goes E F g st a w o C r:=by
  simp only [pvU,hop] at hv
  unfold newM at hv
  split at hv
  case h_2=>cases hv
  rename_i v kt vt l hp
  obtain ⟨hv1,hv2,hitems⟩:=pool_at h hp (isPool_mk t)
  obtain ⟨hver,hPT⟩:=hv1 rfl
  have hB:F.w0.heap.size<=w.heap.size:=h.fr.size
  have hin:g.C.i (mk t) l.length=none:=by
    cases hh:g.C.i (mk t) l.length with
    | none=>rfl
    | some b=>have:=hv2 _ _ hh;omega
  have G:Grew w g.C (w.alloc (.map #[] 0)) (iN g.C (mk t) l.length w.heap.size):=by
    have G0:=Grew.alloc h.fr.lim (.map #[] 0)
    refine ⟨G0.size,G0.old,G0.os,G0.tape,G0.output,G0.com,G0.lim,fun k j b hb=>?_⟩
    show (if k=mk t /\ j=l.length then some w.heap.size else g.C.i k j)=some b
    rw [if_neg fun e1=>by rw [e1.1,e1.2,hin] at hb;cases hb]
    exact hb
  have howE:∀ b q,g.ow b=some q->owN g w.heap.size (mk t) l.length [] b=some q:=fun b q hb=>by
    have hlt:=h.ows.lim b q hb
    unfold owN
    rw [if_neg (by omega)]
    exact hb
  have howC:∀ b q,owN g w.heap.size (mk t) l.length [] b=some q->(b=w.heap.size /\ q=(mk t,l.length,none)) \/ g.ow b=some q:=fun b q hb=>by
    unfold owN at hb
    split at hb
    · rename_i e1
      exact .inl ⟨e1,(Option.some.inj hb).symm⟩
    · exact .inr hb
  have hval:∀ tmf,RelP F ⟨iN g.C (mk t) l.length w.heap.size,g.blk,g.ρ,g.H,owN g w.heap.size (mk t) l.length [],bump g.ver (mk t) (v+1)⟩ (w.alloc (.map #[] 0)) (putO st.O [] []) tmf (.map (some w.heap.size)) (.w false [.d (.mp t) (l.length:Int)]):=fun tmf=>
    rel_leaf.2 ⟨some w.heap.size,.inr ⟨l.length,w.heap.size,rfl,if_pos ⟨rfl,rfl⟩,rfl⟩,rfl⟩
  have hU:OutR F g st w ⟨.w false [.d (.mp t) (l.length:Int)],[(mk t,[.d (.arr (v+1) (.sl (.pr kt vt))) (l++[nilM kt vt])])],[],[]⟩ (.map (some w.heap.size)) ⟨iN g.C (mk t) l.length w.heap.size,g.blk,g.ρ,g.H,owN g w.heap.size (mk t) l.length [],bump g.ver (mk t) (v+1)⟩ (w.alloc (.map #[] 0)):=by
    refine OutR.grew0 h G (fun _ _ _=>rfl) (fun _=>.inl rfl) rfl (fun tmf=>hval tmf) (fun _ _ _ _ e=>by cases e) (fun k l2 hm hnp=>?_) h.blk0 (fun _ _ hm=>by cases hm) (fun _ _ _ hm=>by cases hm) (fun k l2 hm hn=>?_)
      ⟨fun k' l2 hm _=>?_,fun b k' j s' hbo hnm=>?_,fun k' hnm=>bump_ne fun e1=>hnm (by rw [e1];exact List.mem_singleton.2 rfl),howE,fun b q hq=>?_,fun _ _ hm=>by (cases hm),fun k' l2 hm _ hnp=>?_,fun k' hk j=>?_,fun k' hm _=>?_,fun b k' j s' hbo hpt=>.inr fun o hn=>?_⟩
    · have e1:=(Prod.mk.inj (List.mem_singleton.1 hm)).1
      rw [e1,isPool_mk] at hnp;cases hnp
    · have e1:=(Prod.mk.inj (List.mem_singleton.1 hm)).1
      obtain ⟨σ,hh⟩:=poolL_some hp
      rw [e1] at hn
      rcases hh with ⟨_,hh⟩ | ⟨hh,_⟩
      · rw [hn] at hh;cases hh
      · cases hh
    · obtain ⟨rfl,rfl⟩:=Prod.mk.inj (List.mem_singleton.1 hm)
      refine ⟨⟨.sl (.pr kt vt),l++[nilM kt vt],.inl ⟨v+1,rfl,bump_at,hPT⟩,fun j b hjb=>?_,fun j y hy=>?_⟩,?_⟩
      · have hjb':(if mk t=mk t /\ j=l.length then some w.heap.size else g.C.i (mk t) j)=some b:=hjb
        rw [List.length_append,List.length_singleton]
        split at hjb'
        · rename_i e1;omega
        · have:=hv2 j b hjb';omega
      · by_cases hj:j < l.length
        · rw [List.getElem?_append_left hj] at hy
          refine (hitems j y hy).gw G.gw fun b s' hbo=>?_
          have hlt:=h.ows.lim b _ hbo
          exact ⟨⟨G.old b hlt,fun o=>G.com b o hlt⟩,howE b _ hbo⟩
        · have hjl : j = l.length := by
            have:=(List.getElem?_eq_some_iff.1 hy).1
            simp at this;omega
          subst hjl
          have hy':nilM kt vt=y:=by simpa using hy
          subst hy'
          unfold ItemOk
          rw [isMapK_mk]
          exact ⟨w.heap.size,#[],0,if_pos ⟨rfl,rfl⟩,if_pos rfl,heap_alloc_new _ _,fun o hc=>by have:=h.fr.lim _ _ hc;omega,rfl,fun i x m hx=>by (have hx:([]:List (kt.D×vt.D))[i]? = some x:=hx);simp at hx,List.nodup_nil,List.nodup_nil⟩
      · show g.ver (mk t) < bump g.ver (mk t) (v+1) (mk t)
        rw [bump_at,hver];omega
    · have hlt:=h.ows.lim b _ hbo
      exact ⟨G.old b hlt,fun o=>G.com b o hlt⟩
    · rcases howC b q hq with ⟨e1,_⟩ | hq'
      · exact ⟨by rw [e1,World.size_alloc];omega,.inr (.inl (by omega))⟩
      · exact ⟨Nat.lt_of_lt_of_le (h.ows.lim b q hq') G.size,.inl hq'⟩
    · have e1:=(Prod.mk.inj (List.mem_singleton.1 hm)).1
      rw [e1,isPool_mk] at hnp;cases hnp
    · have hk' : k' ≠ mk t := fun e1 => by
        rcases hk with hk | hk
        · exact hk (by rw [e1];exact List.mem_singleton.2 rfl)
        · rw [e1,isPool_mk] at hk;cases hk
      exact if_neg fun e1=>hk' e1.1
    · have e1:k'=mk t:=List.mem_singleton.1 hm
      rw [e1];exact hPT
    · rcases howC b _ hbo with ⟨e1,_⟩ | hq'
      · rw [e1];exact .inl hB
      · exact h.ows.wr b k' j s' hq' hpt o fun hc=>hn hc
  exact goes_val (by simp [execOp,hop,Go.RowKit.run_makeMap,Result.andThen]) hU hv
end
end Pv
end Go.Proofs.YtifbhefbhlbofaaDoor
namespace Go.Proofs.YtifbhefbhlbofaaDoor
namespace Pv
set_option linter.unusedVariables false
section
variable {P : Program} {E : Env} {F : Fr} {g g' : Gh} {st : PSt} {a : Act} {w w' : World} {o : Oper} {R : Type} {C : Upd -> Option R} {r : R}
def Env.ok (E:Env) (T:Tab):Prop:=∀ p∈E.fns,SoundFn E.P T p.1 p.2.1 p.2.2
def Env.okF (E:Env) (F:Fr):Prop:=∃ T,E.ok T /\ TabF T F
theorem findF_mem:∀ {l:List (FuncId×(s:Sig)×s.Fn)} {f:FuncId} {x:(s:Sig)×s.Fn},findF l f=some x->(f,x)∈l
 | [],_,_,h=>by cases h
 | (g,y)::l,f,x,h=>by
  unfold findF at h
  split at h
  ·rename_i hb
   have e:g=f:=Nat.eq_of_beq_eq_true hb
   injection h with h
   subst e;subst h
   exact List.mem_cons_self
  ·exact List.mem_cons_of_mem _ (findF_mem h)
theorem run_callFunc {f : FuncId} {fn : Func} (hf : P.funcs[f]? = some fn) (h : (fn.body.isSome && !(fn.name == "runtime.NumGoroutine")) = true) (args : Array Value) (w : World) :
  (callFunc f args).run P w=.ok (.enter f args) w:=by
 simp only [Bool.and_eq_true,Bool.not_eq_true'] at h
 have h1:fn.body≠none:=by intro e;rw [e] at h;simp at h
 have h2 : fn.name ≠ "runtime.NumGoroutine" := by simpa using h.2
 simp [callFunc,hf,h2,h1]
def Kept (g:Gh) (st:PSt) (w:World) (u:Upd) (g':Gh) (w':World):Prop:=(∀ t∈u.born,st.O t=false) /\ (u.loc=[] -> ∀ b,b < w.heap.size->(∀ k,st.O k=true->g.blk k≠some b)->Kp g w g' w' b)
theorem mkPools_some:∀ {L:Nat->Option (Nat×List Leaf)} {pls:Pls} {ds:List Dat},takePools L pls=some ds -> ∃ pl,mkPools pls ds=some pl
 | L,[],ds,h=>by
  cases h
  exact ⟨[],rfl⟩
 | L,(k,e,wr)::r,ds,h=>by
  unfold takePools at h
  split at h
  ·rename_i b v e' l xs hp hr
   split at h
   ·rename_i z hb hz
    cases h
    obtain ⟨pl,hpl⟩:=mkPools_some hr
    refine ⟨(k,[poolLeaf wr 0 e z])::pl,?_⟩
    unfold mkPools
    rw [castD_self,hpl]
   ·cases h
  ·cases h
theorem go_callP (hE:E.okF F) (h:MRel F g st (tm a) w) {f:FuncId} {args:Array Operand} {ts:Array TypeId} (hop:o.op=.call { callee:=.value (.func f),args:=args,argTypes:=ts }) {s:Sig} {fn:s.Fn} {fd:Func} (hfind:findF E.fns f=some ⟨s,fn⟩) (hfd:E.P.funcs[f]? = some fd)
    (hbody : (fd.body.isSome && !(fd.name == "runtime.NumGoroutine")) = true) (hv : callP E s fn o.dst args.toList ts.toList st (evK st.kn st.φ) C = some r)
    (N:Act->World->Prop) (Q:Exit->Act->World->Prop) (hN:∀ v w' g' u,C u=some r->OutR F g st w u v g' w'->Kept g st w u g' w'->N (a.put o.dst v) w'):o.wp E.P a w N Q:=by
  unfold callP at hv
  split at hv
  case h_2=>cases hv
  rename_i ls ms hargs
  split at hv
  case h_2=>cases hv
  rename_i ks xs ps htake htp
  split at hv
  case h_2=>cases hv
  rename_i hb
  simp only [Bool.and_eq_true] at hb
  obtain ⟨⟨⟨⟨hdt,hdk⟩,hdst⟩,hnps⟩,hpls⟩:=hb
  obtain ⟨y,hy,hv⟩:=Option.bind_eq_some_iff.1 hv
  split at hv
  case h_2=>cases hv
  rename_i os pos hos hpos
  cases hd:o.dst with
  | none=>rw [hd] at hdst;cases hdst
  | some d=>
    rw [hd] at hdst hos hv
    have hfr:hasN st.fr d=true:=hdst
    have hfresh:=(h.fresh d hfr).2.2.1
    obtain ⟨lsE,hlsE⟩:=mk_some (lab:=Tok.hd 0) (j:=0) htake
    obtain ⟨plE,hplE⟩:=mkPools_some htp
    have hent:∃ stE,entrySt s (xs++ps)=some stE:=by
      unfold entrySt
      rw [List.take_left' (takeAll_len htake),List.drop_left' (takeAll_len htake),hlsE,hplE]
      exact ⟨_,rfl⟩
    obtain ⟨stE,hstE⟩:=hent
    have hrelE:=entry_rel (n0:=fd.ntmps) h hargs htake hdt hdk hnps hpls htp hstE
    have hlen:=(argsP_facts h hargs).1
    obtain ⟨T,hE,hT⟩:=hE
    have hsound:=hE _ (findF_mem hfind)
    have hcalls:=hsound _ _ stE (xs++ps) y _ w (args.map a.eval) (tab_call hT h) hstE hy hrelE rfl (fun _=>Iff.rfl) (fun fd' h'=>by rw [hfd] at h';cases h';rfl) (by simpa using hlen) (fun i=>by
      rw [Array.getD_eq_getD_getElem?,List.getD_eq_getElem?_getD]
      simp)
    have hex:execOp a.eval o=callFunc f (args.map a.eval):=by
      have ef:a.eval (.func f)=.func (.func f) #[] #[]:=rfl
      unfold execOp
      simp [hop,resolve,Deferred.ofValue,invoke,ef]
    unfold Oper.wp
    rw [hex,run_callFunc hfd hbody,Oper.upon_enter]
    refine hcalls.mono fun e w' ⟨us,g',st',he,hul,hst',hrel',hρ⟩=>?_
    subst he
    refine hN _ w' _ _ hv (go_back h hnps hargs htake hdt hdk hpls htp hrel' hst' hul hρ hos hpos hfresh) ⟨fun t ht=>?_,fun hloc b hb hno=>?_⟩
    · obtain ⟨i,E',e',_,h2⟩:=labs_mem.1 ht
      rw [h2]
      exact hfresh _
    · have hms : ms = [] := by
        cases ms with
        | nil=>rfl
        | cons m ms=>exact absurd hloc (by simp [locsOut])
      have hps:pos=[]:=by
        cases pos with
        | nil=>rfl
        | cons m pos=>exact absurd hloc (by simp)
      obtain ⟨plW,hplW⟩:∃ plW,mkPools (wPls s.pls) ((unpackD s.outTs y).drop s.outs.length)=some plW:=by
        unfold exitSt at hst'
        split at hst'
        · cases hst'
        · cases hst'
        · exact ⟨_,by assumption⟩
      have hkeys:=(back_pools hplW hpos).1
      rw [hps] at hkeys
      refine ⟨(hrel'.fr.kp hb fun o hx=>?_).1,(hrel'.fr.kp hb fun o hx=>?_).2⟩
      all_goals
        rcases hx with ⟨k,σ,l,hk,_⟩ | ⟨k,hk,hO,hbk,_⟩ | ⟨k,e,j,s',hk,_⟩
        · rw [hms] at hk;cases hk
        · exact hno k hO hbk
        · have hm:k∈(wPls s.pls).map (·.1):=List.mem_map.2 ⟨_,wPls_mem.2 ⟨rfl,hk⟩,rfl⟩
          rw [<-hkeys] at hm
          cases hm
theorem go_callL (hE:E.okF F) (h:MRel F g st (tm a) w) {f:FuncId} {args:Array Operand} {ts:Array TypeId} (hop:o.op=.call { callee:=.value (.func f),args:=args,argTypes:=ts }) {s:Sig} {fn:s.Fn} {fd:Func} (hfind:findF E.fns f=some ⟨s,fn⟩) (hfd:E.P.funcs[f]? = some fd)
  (hbody : (fd.body.isSome && !(fd.name == "runtime.NumGoroutine")) = true) (hv : callL E s fn o.dst args.toList ts.toList st (evK st.kn st.φ) C = some r) : Goes E F g st a w o C r := by
 intro N Q hN
 have fin:∀ {u:Upd} {v:Value} {g':Gh} {w':World},OutR F g st w u v g' w'->(∀ t∈u.born,st.O t=false)->(∀ d,o.dst=some d->hasN st.fr d=true)->rowC E o.dst st.fr C u=some r->N (a.put o.dst v) w':=fun {u v g' w'} hU hborn hfr hC=>by
  cases hd:o.dst with
  | none=>
   rw [hd] at hC
   rw [<-hd]
   exact hN v w' g' u hC hU
  | some d=>
   rw [hd] at hC
   rw [<-hd]
   obtain ⟨u',g'',h1,h2⟩:=row_out h (fun _=>hborn) hU hC
   exact hN v w' g'' u' h1 h2
 have hdst:∀ {st0:PSt} {ev:Operand->PV} {C0:Upd->Option R},callP E s fn o.dst args.toList ts.toList st0 ev C0=some r->st0.fr=st.fr -> ∀ d,o.dst=some d->hasN st.fr d=true:=fun {st0 ev C0} hv he d hd=>by
  unfold callP at hv
  repeat' split at hv
  all_goals first
   | (cases hv;done)
   | skip
  rename_i hb
  simp only [Bool.and_eq_true] at hb
  have:=hb.1.1.2
  rw [hd,he] at this
  exact this
 unfold callL at hv
 split at hv
 ·exact go_callP hE h hop hfind hfd hbody hv N Q fun v w' g' u hC hU hK=>fin hU hK.1 (hdst hv rfl) hC
 ·rename_i k K hkeys
  have hKnp:∀ j,hasN (k::K) j=true->isPool j=false:=fun j hj=>by
   rw [<-hkeys] at hj
   obtain ⟨z,_,hz2⟩:=List.mem_flatMap.1 (hasN_iff.1 hj)
   have hz3:=ev_rel h z
   split at hz2
   ·rename_i hrow
    rw [hrow] at hz3
    rw [List.mem_singleton.1 hz2]
    exact hz3.1
   ·cases hz2
  obtain ⟨hall,hv⟩:=chk_some hv
  have he:(fun x=>lendX (k::K) (tmpsOf args.toList) st.L x (evK st.kn st.φ x))=evK (lendSt (k::K) (tmpsOf args.toList) st).kn (lendSt (k::K) (tmpsOf args.toList) st).φ:=funext fun x=>(lend_ev x).symm
  rw [he] at hv
  have hok:∀ i,hasN (tmpsOf args.toList) i=true->rowOk st.L (st.φ i)=true:=fun i hi=>by
   obtain ⟨x,hx,hxi⟩:=List.mem_filterMap.1 (hasN_iff.1 hi)
   cases x with
   | tmp t=>
    have e:t=i:=by
     have hxi:some t=some i:=hxi
     injection hxi
    subst e
    have h1:=List.all_eq_true.1 hall _ hx
    cases hp:st.φ t with
    | row k n tt=>
     have h2:evK st.kn st.φ (.tmp t)=.row k n tt:=by
      show (match st.φ t with | .spec j want ag ls=>(match knows st.kn j with | some b=>(match bEq b want with | true=>knB st.kn (.tmp t) (.w ag ls) | false=>.raw undef) | none=>.dead) | p=>knB st.kn (.tmp t) p)=_
      rw [hp]
      exact knB_fix fun b e=>by cases e
     rw [h2] at h1
     exact h1
    | _=>rfl
   | _=>cases hxi
  refine go_callP hE (lend_rel (k::K) _ hKnp h hok) hop hfind hfd hbody hv N Q fun v w' g' u hC hU hK=>?_
  obtain ⟨h1,h2⟩:=lend_back (k::K) _ h hU hC
  exact fin h2 hK.1 (hdst hv rfl) h1
theorem go_call (hE:E.okF F) (h:MRel F g st (tm a) w) {f:FuncId} {args:Array Operand} {ts:Array TypeId} (hop:o.op=.call { callee:=.value (.func f),args:=args,argTypes:=ts }) (hv:pvU E o st (evK st.kn st.φ) C=some r):Goes E F g st a w o C r:=by
 simp only [pvU,hop] at hv
 split at hv
 ·split at hv
  ·exact go_callL hE h hop (by assumption) (by assumption) (by assumption) hv
  ·cases hv
 ·exact go_extP h hop (by assumption) hv
 ·cases hv
theorem pvU_sound (hE:E.okF F) (h:MRel F g st (tm a) w) (hv:pvU E o st (evK st.kn st.φ) C=some r):Goes E F g st a w o C r:=by
 have hv0:=hv
 cases hop:o.op with
 | move x=>exact go_move h (.inl hop) hv
 | assign x=>exact go_move h (.inr hop) hv
 | nilCheck x=>exact go_nilCheck h hop hv
 | alloc t=>exact go_alloc h hop hv
 | box t x=>exact go_box h hop hv
 | load t x=>exact go_load h hop hv
 | store t x y=>exact go_store h hop hv
 | fieldAddr s x f=>exact go_fieldAddr h hop hv
 | indexAddr t x i=>exact go_indexAddr h hop hv
 | index t x i=>
  by_cases hus:E.P.underlying t=some .string
  ·exact go_indexS h hop hus hv
  ·exact go_indexA h hop hus hv
 | slice t x lo hi mx=>exact go_slice h hop hv
 | field s x f=>exact go_field h hop hv
 | extract x i=>exact go_extract h hop hv
 | build t parts=>exact go_build h hop hv
 | buildSlice t len parts=>exact go_buildSlice h hop hv
 | makeSlice t n c=>exact go_makeSlice h hop hv
 | binOp op t x y uy=>exact go_binOp h hop hv
 | unOp op t x=>exact go_unOp h hop hv
 | convert src dst x=>exact go_convert h hop hv
 | lookup t x i c=>exact go_lookup h hop hv
 | mapUpdate t x i y=>exact go_mapUpdate h hop hv
 | makeMap t rv=>
  cases rv with
  | none=>exact go_makeMap h hop hv
  | some _=>simp [pvU,hop] at hv0
 | call c=>
  obtain ⟨callee,args,ts⟩:=c
  cases callee with
  | value x=>
   cases x with
   | func f=>exact go_call hE h hop hv
   | tmp _=>simp [pvU,hop] at hv0
   | const _=>simp [pvU,hop] at hv0
   | global _=>simp [pvU,hop] at hv0
  | invoke _ _=>simp [pvU,hop] at hv0
  | builtin b=>
   by_cases h1:b=.len
   ·subst h1;exact go_len h hop hv
   by_cases h2:b=.min
   ·subst h2;exact go_mm h (.inl rfl) hop hv
   by_cases h3:b=.max
   ·subst h3;exact go_mm h (.inr rfl) hop hv
   by_cases h4:b=.append
   ·subst h4;exact go_append h hop hv
   by_cases h5:b=.real
   ·subst h5;exact go_ri h (.inl rfl) hop hv
   by_cases h6:b=.imag
   ·subst h6;exact go_ri h (.inr rfl) hop hv
   by_cases h7:b=.complex
   ·subst h7;exact go_cx h hop hv
   simp only [pvU,hop] at hv0
   unfold bltP at hv0
   split at hv0
   ·cases b <;> first | contradiction | cases hv0
   ·cases b <;> first | contradiction | cases hv0
   ·cases hv0
 | _=>simp [pvU,hop] at hv0
end
section
variable {P : Program} {E : Env} {F : Fr} {g g' : Gh} {st st' : PSt} {a a' : Act} {w w' : World} {o : Oper} {ops : Array Oper} {R : Type} {r : R}
structure AR (F:Fr) (g:Gh) (st:PSt) (a:Act) (w:World):Prop where
 size:a.tmps.size=F.n
 defers:a.defers=[]
 rel:MRel F g st (tm a) w
structure Lft (M:Nat->Prop) (I:Nat->Prop) (g:Gh) (a:Act) (w:World) (g':Gh) (a':Act) (w':World):Prop where
 tmp:∀ i,¬ M i->tm a' i=tm a i
 ρ:∀ k,¬ M k->g'.ρ k=g.ρ k
 gw:Gw w g.C w' g'.C
 H:∀ k σ,¬ I σ->σ≠0->g'.H k σ=g.H k σ
theorem Lft.refl (M I:Nat->Prop):Lft M I g a w g a w:=⟨fun _ _=>rfl,fun _ _=>rfl,Gw.refl _ _,fun _ _ _ _=>rfl⟩
theorem Lft.trans {M I:Nat->Prop} {g2:Gh} {a2:Act} {w2:World} (h:Lft M I g a w g' a' w') (k:Lft M I g' a' w' g2 a2 w2):Lft M I g a w g2 a2 w2:=
 ⟨fun i hi=>(k.tmp i hi).trans (h.tmp i hi),fun i hi=>(k.ρ i hi).trans (h.ρ i hi),h.gw.trans k.gw,fun x σ h1 h2=>(k.H x σ h1 h2).trans (h.H x σ h1 h2)⟩
theorem Lft.mono {M I M' I':Nat->Prop} (h:Lft M I g a w g' a' w') (hm:∀ i,M i->M' i) (hi:∀ i,I i->I' i):Lft M' I' g a w g' a' w':=
 ⟨fun i hn=>h.tmp i fun e=>hn (hm i e),fun i hn=>h.ρ i fun e=>hn (hm i e),h.gw,fun x σ h1 h2=>h.H x σ (fun e=>h1 (hi σ e)) h2⟩
theorem MRel.knMore {tmf:Nat->Value} (h:MRel F g st tmf w) {kn:List (Nat×Bool)} (hk:∀ t b,knows kn t=some b->tmf t=.bool b):MRel F g ⟨st.φ,st.L,st.O,kn,st.sp,st.fr⟩ tmf w:=
 ⟨h.fr,h.slots,h.locals,h.pools,h.hist,hk,h.sp,h.fresh,h.locL,h.blk0,h.blkI,h.blkL,h.blkS,h.blkW,h.ρI,h.ows⟩
theorem MRel.spMore {tmf:Nat->Value} (h:MRel F g st tmf w) (t:Nat):MRel F g ⟨st.φ,st.L,st.O,st.kn,t::st.sp,st.fr⟩ tmf w:=
 ⟨h.fr,h.slots,h.locals,h.pools,h.hist,h.kn,fun i t' want ag ls hs=>hasN_iff.2 (List.mem_cons_of_mem _ (hasN_iff.1 (h.sp i t' want ag ls hs))),h.fresh,h.locL,h.blk0,h.blkI,h.blkL,h.blkS,h.blkW,h.ρI,h.ows⟩
theorem MRel.putV {d:Option Nat} {p:PV} {u:Value} (h:MRel F g st (tm a) w) (ha:a.tmps.size=F.n) (hd:∀ x,d=some x->x < F.n) (hv:∀ tmf,(∀ t want ag ls,p=.spec t want ag ls->tmf t=tm a t)->RelP F g w st.O tmf u p)
  (hfree:freeD st d=true) (hsp:∀ t want ag ls,p=.spec t want ag ls->hasN st.sp t=true) (hm:∀ x,x∈outN d st.fr->mentP x p=false) (hk:∀ k,k∈keyP p->(st.L k).isSome=true) :
  MRel F g ⟨putP st.φ d p,st.L,st.O,st.kn,st.sp,outN d st.fr⟩ (tm (a.put d u)) w:=by
 have hput:∀ i,tm (a.put d u) i=if d=some i then u else tm a i:=fun i=>tm_put a d u i fun x hx=>by rw [ha];exact hd x hx
 have hdne:∀ t,hasN st.sp t=true \/ (∃ b,knows st.kn t=some b)->d≠some t:=fun t ht e=>by
  subst e
  simp only [freeD,Bool.and_eq_true,Bool.not_eq_true'] at hfree
  rcases ht with hs | ⟨b,hb⟩
  ·rw [hs] at hfree;cases hfree.1
  ·rw [hb] at hfree;cases hfree.2
 refine ⟨h.fr,fun i=>?_,h.locals,h.pools,h.hist,fun t b hb=>?_,fun i t want ag ls hs=>?_,fun x hx=>?_,fun i k hk'=>?_,h.blk0,h.blkI,h.blkL,h.blkS,h.blkW,h.ρI,h.ows⟩
 ·show RelP F g w st.O _ _ (putP st.φ d p i)
  rw [hput]
  by_cases hi:d=some i
  ·rw [if_pos hi,hi,putP_at]
   exact hv _ fun t want ag ls e=>by rw [<-hi,hput,if_neg (hdne t (.inl (hsp t want ag ls e)))]
  ·rw [if_neg hi,putP_ne hi]
   exact (h.slots i).gw (Gw.refl _ _) (fun k _=>Lives.refl k) (fun _ _=>rfl) (fun t want ag ls hs=>by rw [hput,if_neg (hdne t (.inl (h.sp i t want ag ls hs)))]) fun k _ _=>Same.refl k
 ·rw [hput,if_neg (hdne t (.inr ⟨b,hb⟩))];exact h.kn t b hb
 ·have hs':putP st.φ d p i=.spec t want ag ls:=hs
  by_cases hi:d=some i
  ·rw [hi,putP_at] at hs';exact hsp t want ag ls hs'
  ·rw [putP_ne hi] at hs';exact h.sp i t want ag ls hs'
 ·have hx':x∈outN d st.fr:=hasN_iff.1 hx
  obtain ⟨f1,f2,f3,f4⟩:=h.fresh x (hasN_iff.2 (outN_mem.1 hx').1)
  refine ⟨fun i=>?_,f2,f3,f4⟩
  show mentP x (putP st.φ d p i)=false
  by_cases hi:d=some i
  ·rw [hi,putP_at];exact hm x hx'
  ·rw [putP_ne hi];exact f1 i
 ·have hk2:k∈keyP (putP st.φ d p i):=hk'
  by_cases hi:d=some i
  ·rw [hi,putP_at] at hk2;exact hk k hk2
  ·rw [putP_ne hi] at hk2;exact h.locL i k hk2
def Fr1 (d:Option Nat) (g:Gh) (a:Act) (w:World) (g':Gh) (a':Act) (w':World):Prop:=Lft (fun i=>d=some i) (fun _=>False) g a w g' a' w'
theorem put_lft (ha:a.tmps.size=F.n) {d:Option Nat} (hd:∀ x,d=some x->x < F.n) (v:Value):Fr1 d g a w g (a.put d v) w:=
 ⟨fun i hi=>by rw [tm_put a d v i fun x hx=>by rw [ha];exact hd x hx,if_neg hi],fun _ _=>rfl,Gw.refl _ _,fun _ _ _ _=>rfl⟩
theorem okUpd_loc {d:Option Nat} {u:Upd} (hok:okUpd st d u=true) {k:Nat} {ls:List Leaf} (hm:(k,ls)∈u.loc) (hn:st.L k=none):d=some k:=by
 simp only [okUpd,Bool.and_eq_true,List.all_eq_true] at hok
 have:=hok.2 (k,ls) hm
 simp only [hn] at this
 cases d with
 | none=>cases this
 | some x=>
  simp only [Bool.and_eq_true] at this
  rw [Nat.eq_of_beq_eq_true this.1]
theorem knows_cons {kn:List (Nat×Bool)} {t:Nat} {b:Bool} {tmf:Nat->Value} (ht:tmf t=.bool b) (h:∀ t b,knows kn t=some b->tmf t=.bool b):∀ t' b',knows ((t,b)::kn) t'=some b'->tmf t'=.bool b':=fun t' b' hk=>by
 unfold knows at hk
 split at hk
 ·rename_i hb
  have e:t=t':=Nat.eq_of_beq_eq_true hb
  injection hk with hk
  subst e;subst hk;exact ht
 ·exact h t' b' hk
theorem pick_run {c x y:Operand} {b:Bool} (hop:o.op=.pick c x y) (hc:a.eval c=.bool b):(execOp a.eval o).run P w=.ok (.value (if b then a.eval x else a.eval y)) w:=by
 simp only [execOp,hop,Sem.run_bind,Sem.run_pure,hc,asBool,Result.andThen_ok]
theorem pick_sound {kn:List (Nat×Bool)} (h:MRel F g ⟨st.φ,st.L,st.O,kn,st.sp,st.fr⟩ (tm a) w) {c x y:Operand} {p:PV} (hop:o.op=.pick c x y) (hp:pickP kn st.φ c x y=some p):∃ b,p=pbool b /\ (execOp a.eval o).run P w=.ok (.value (.bool b)) w:=by
 unfold pickP at hp
 split at hp
 case h_2=>cases hp
 rename_i t
 split at hp
 case h_2=>cases hp
 rename_i b hb
 have hx:=ev_rel h (.tmp t)
 have hx':RelP F g w st.O (tm a) (a.eval (.tmp t)) (evK kn st.φ (.tmp t)):=hx
 rw [hb] at hx'
 have htm:tm a t=.bool b:=rel_bool hx'
 have hc:a.eval (.tmp t)=.bool b:=htm
 have hex:=pick_run (P:=P) (w:=w) hop hc
 have side:∀ (want:Bool) (z:Operand) (q:Bool),b=want->evK ((t,want)::kn) st.φ z=.w false [.d .bool q]->a.eval z=.bool q:=fun want z q e hz=>by
  subst e
  have h2:=h.knMore (kn:=(t,b)::kn) (knows_cons htm h.kn)
  have h3:=ev_rel h2 z
  have h3':RelP F g w st.O (tm a) (a.eval z) (evK ((t,b)::kn) st.φ z):=h3
  rw [hz] at h3'
  exact rel_bool h3'
 split at hp
 ·split at hp
  ·rename_i q hq
   injection hp with hp
   refine ⟨b&&q,hp.symm,?_⟩
   rw [hex]
   cases b with
   | true=>rw [if_pos rfl,side true x q rfl hq];rfl
   | false=>rfl
  ·cases b with
   | true=>cases hp
   | false=>
    injection hp with hp
    exact ⟨false,hp.symm,by rw [hex];rfl⟩
 ·split at hp
  ·split at hp
   ·rename_i q hq
    injection hp with hp
    refine ⟨b||q,hp.symm,?_⟩
    rw [hex]
    cases b with
    | true=>rfl
    | false=>rw [if_neg Bool.false_ne_true,side false y q rfl hq];rfl
   ·cases b with
    | false=>cases hp
    | true=>
     injection hp with hp
     exact ⟨true,hp.symm,by rw [hex];rfl⟩
  ·cases hp
theorem stepU_sound (hE:E.okF F) {kn:List (Nat×Bool)} (h:AR F g ⟨st.φ,st.L,st.O,kn,st.sp,st.fr⟩ a w) (hd:∀ x,o.dst=some x->x < F.n) {C:Rec->PSt->Option R} (hv:stepU E o kn st C=some r) {N:Act->World->Prop} {Q:Exit->Act->World->Prop}
  (hN:∀ a' w' g' rc st',C rc st'=some r->AR F g' st' a' w'->Fr1 o.dst g a w g' a' w'->N a' w'):o.wp E.P a w N Q:=by
 unfold stepU at hv
 split at hv
 case h_2=>cases hv
 rename_i hfree
 split at hv
 ·rename_i c x y hop
  split at hv
  ·rename_i p hp
   obtain ⟨b,rfl,hr⟩:=pick_sound (P:=E.P) h.rel hop hp
   unfold Oper.wp
   rw [hr]
   refine hN _ _ g _ _ hv ⟨(put_size a o.dst _).trans h.size,(put_defers a o.dst _).trans h.defers,?_⟩ (put_lft h.size hd _)
   exact h.rel.putV h.size hd (fun _ _=>mk_bool) hfree (fun _ _ _ _ e=>by cases e) (fun _ _=>rfl) (fun _ e=>by cases e)
  ·cases hv
 ·rename_i hnp
  have hg:=pvU_sound (o:=o) hE h.rel hv
  refine hg N Q fun v w' g' u hC hU=>?_
  simp only at hC
  split at hC
  ·rename_i hok
   refine hN _ _ g' _ _ hC ⟨(put_size a o.dst v).trans h.size,(put_defers a o.dst v).trans h.defers,hU.put h.rel h.size hd hok hfree⟩ ⟨fun i hi=>?_,fun k hk=>?_,hU.gw,fun k σ _ _=>by rw [hU.H]⟩
   ·rw [tm_put a o.dst v i fun x hx=>by rw [h.size];exact hd x hx,if_neg hi]
   ·rcases hU.ρn k with e | ⟨e,ls,hm⟩
    ·exact e
    ·exact (hk (okUpd_loc hok hm e)).elim
  ·cases hC
theorem skipU_sound {kn:List (Nat×Bool)} (h:AR F g ⟨st.φ,st.L,st.O,kn,st.sp,st.fr⟩ a w) (hd:∀ x,o.dst=some x->x < F.n) {C:Rec->PSt->Option R} (hv:skipU o kn st C=some r) {N:Act->World->Prop}
  (hN:∀ a' w' g' rc st',C rc st'=some r->AR F g' st' a' w'->Fr1 o.dst g a w g' a' w'->N a' w'):N (a.put o.dst undef) w:=by
 unfold skipU at hv
 split at hv
 ·rename_i hfree
  refine hN _ _ g _ _ hv ⟨(put_size a o.dst _).trans h.size,(put_defers a o.dst _).trans h.defers,?_⟩ (put_lft h.size hd _)
  exact h.rel.putV h.size hd (fun _ _=>rfl) hfree (fun _ _ _ _ e=>by cases e) (fun _ _=>rfl) (fun _ e=>by cases e)
 ·cases hv
def Way (E:Env) (ops:Array Oper) (o:Oper) (a:Act) (w:World) (N:Act->World->Prop) (Q:Exit->Act->World->Prop):Prop:=
 if Region.wanted o (yielded ops a.tmps) then o.wp E.P a w N Q else N (a.put o.dst undef) w
def isWant (want:Bool):Value->Bool
 | .bool b=>b==want
 | _=>false
theorem isWant_ne {b want:Bool} (h:b≠want):¬ isWant want (.bool b)=true:=by simpa [isWant] using h
theorem isWant_eq {b want:Bool} (h:b=want):isWant want (.bool b)=true:=by simp [isWant,h]
theorem wanted_eq {j t:Nat} {want:Bool} (hg:o.guard=some (j,want)) (ht:(ops[j]?).bind (·.dst)=some t):Region.wanted o (yielded ops a.tmps)=isWant want (tm a t):=by
 unfold Region.wanted yielded
 simp only [hg,ht,Option.bind_some]
 unfold tm
 by_cases hlt:t < a.tmps.size
 ·have e:a.tmps[t]? = some (a.tmps.getD t undef):=by simp [hlt]
  rw [e]
  generalize a.tmps.getD t undef=x
  cases x <;> simp [isWant]
 ·have e:a.tmps[t]? = none:=by simp;omega
  have e2:a.tmps.getD t undef=undef:=by simp [e]
  rw [e,e2]
  rfl
theorem MRel.toSpec {tmf:Nat->Value} {d:Nat} {ag:Bool} {ls:List Leaf} {t:Nat} {want:Bool} {kn kn':List (Nat×Bool)} {φ:Nat->PV} {sp fr:List Nat} (h:MRel F g ⟨putP φ (some d) (.w ag ls),st.L,st.O,kn',sp,fr⟩ tmf w) (ht:tmf t=.bool want)
  (hk:∀ t b,knows kn t=some b->tmf t=.bool b):MRel F g ⟨putP φ (some d) (.spec t want ag ls),st.L,st.O,kn,t::sp,fr⟩ tmf w:=by
 refine ⟨h.fr,fun i=>?_,h.locals,h.pools,h.hist,hk,fun i t' want' ag' ls' hs=>?_,fun x hx=>?_,fun i k hk'=>?_,h.blk0,h.blkI,h.blkL,h.blkS,h.blkW,h.ρI,h.ows⟩
 ·have h1:=h.slots i
  show RelP F g w st.O tmf (tmf i) (putP φ (some d) (.spec t want ag ls) i)
  by_cases hi:d=i
  ·subst hi
   rw [putP_at]
   have h1':RelP F g w st.O tmf (tmf d) (putP φ (some d) (.w ag ls) d):=h1
   rw [putP_at] at h1'
   exact ⟨want,ht,fun _=>h1',fun e=>(e rfl).elim⟩
  ·rw [putP_ne (by simpa using hi)]
   have h1':RelP F g w st.O tmf (tmf i) (putP φ (some d) (.w ag ls) i):=h1
   rw [putP_ne (by simpa using hi)] at h1'
   exact h1'
 ·have hs':putP φ (some d) (.spec t want ag ls) i=.spec t' want' ag' ls':=hs
  by_cases hi:d=i
  ·subst hi
   rw [putP_at] at hs'
   injection hs' with e
   subst e
   exact hasN_iff.2 (by simp)
  ·rw [putP_ne (by simpa using hi)] at hs'
   have:=h.sp i t' want' ag' ls' (by show putP φ (some d) (.w ag ls) i=_;rw [putP_ne (by simpa using hi)];exact hs')
   exact hasN_iff.2 (List.mem_cons_of_mem _ (hasN_iff.1 this))
 ·obtain ⟨f1,f2,f3,f4⟩:=h.fresh x hx
  refine ⟨fun i=>?_,f2,f3,f4⟩
  have h1:=f1 i
  show mentP x (putP φ (some d) (.spec t want ag ls) i)=false
  by_cases hi:d=i
  ·subst hi
   rw [putP_at]
   have h1':mentP x (putP φ (some d) (.w ag ls) d)=false:=h1
   rw [putP_at] at h1'
   exact h1'
  ·rw [putP_ne (by simpa using hi)]
   have h1':mentP x (putP φ (some d) (.w ag ls) i)=false:=h1
   rw [putP_ne (by simpa using hi)] at h1'
   exact h1'
 ·have hk2:k∈keyP (putP φ (some d) (.spec t want ag ls) i):=hk'
  by_cases hi:d=i
  ·subst hi
   rw [putP_at] at hk2
   cases hk2
  ·rw [putP_ne (by simpa using hi)] at hk2
   exact h.locL i k (by show k∈keyP (putP φ (some d) (.w ag ls) i);rw [putP_ne (by simpa using hi)];exact hk2)
theorem wayU_sound (hE:E.okF F) {kn:List (Nat×Bool)} {j t:Nat} {want b:Bool} (hg:o.guard=some (j,want)) (ht:(ops[j]?).bind (·.dst)=some t) (h:AR F g ⟨st.φ,st.L,st.O,kn,st.sp,st.fr⟩ a w) (hb:tm a t=.bool b) (hd:∀ x,o.dst=some x->x < F.n)
  {C:Rec->PSt->Option R} (hv:wayU E o want b kn st C=some r) {N:Act->World->Prop} {Q:Exit->Act->World->Prop} (hN:∀ a' w' g' rc st',C rc st'=some r->AR F g' st' a' w'->Fr1 o.dst g a w g' a' w'->N a' w'):Way E ops o a w N Q:=by
 unfold Way
 rw [wanted_eq hg ht,hb]
 unfold wayU at hv
 split at hv
 ·rename_i he
  have:=bEq_iff.1 he
  subst this
  rw [if_pos (by simp [isWant])]
  exact stepU_sound hE h hd hv hN
 ·rename_i he
  have hne:b≠want:=fun e=>by rw [bEq_iff.2 e] at he;cases he
  rw [if_neg (by simpa [isWant] using hne)]
  exact skipU_sound h hd hv hN
theorem guardU_sound (hE:E.okF F) {j t:Nat} {want:Bool} (hg:o.guard=some (j,want)) (ht:(ops[j]?).bind (·.dst)=some t) (hd:∀ x,o.dst=some x->x < F.n) {C:Rec->PSt->Option R} {N:Act->World->Prop} {Q:Exit->Act->World->Prop}
    (hN:∀ a' w' g' rc st',C rc st'=some r->AR F g' st' a' w'->Fr1 o.dst g a w g' a' w'->N a' w'):∀ (n:Nat) (kn:List (Nat×Bool)),AR F g ⟨st.φ,st.L,st.O,kn,st.sp,st.fr⟩ a w->guardU E o t want n kn st C=some r->Way E ops o a w N Q
  | 0,_,_,hv=>by cases hv
  | n+1,kn,h,hv=>by
    unfold guardU at hv
    have hx:=ev_rel h.rel (.tmp t)
    have hx':RelP F g w st.O (tm a) (a.eval (.tmp t)) (evK kn st.φ (.tmp t)):=hx
    split at hv
    · rename_i b hb
      rw [hb] at hx'
      have htm:tm a t=.bool b:=rel_bool hx'
      split at hv
      · rename_i b' hk
        have hb':tm a t=.bool b':=h.rel.kn t b' hk
        exact wayU_sound hE hg ht h hb' hd hv hN
      · rename_i hk
        split at hv
        · rename_i ag ls hs
          split at hv
          · rename_i hfk
            simp only [Bool.and_eq_true] at hfk
            have hft:=hfk.1
            have hdt:o.dst≠some t:=fun e=>by
              rw [e] at hft
              simp only [freeD,Bool.and_eq_true,Bool.not_eq_true'] at hft
              have:=hft.1
              rw [hasN_iff.2 (by simp)] at this
              cases this
            have hfree:∀ kn2,(∀ x,o.dst=some x->knows kn2 x=none)->freeD ⟨st.φ,st.L,st.O,kn2,st.sp,st.fr⟩ o.dst=true:=fun kn2 hkn=>by
              cases hdd:o.dst with
              | none=>rfl
              | some x=>
                rw [hdd] at hft
                simp only [freeD,Bool.and_eq_true,Bool.not_eq_true'] at hft ⊢
                refine ⟨Bool.eq_false_iff.2 fun e=>?_,by rw [hkn x hdd]⟩
                have:=hft.1
                rw [hasN_iff.2 (List.mem_cons_of_mem _ (hasN_iff.1 e))] at this
                cases this
            have hknd:∀ x,o.dst=some x->knows kn x=none:=fun x hdd=>by
              rw [hdd] at hft
              simp only [freeD,Bool.and_eq_true] at hft
              have h2:=hft.2
              cases hkx:knows kn x with
              | none=>rfl
              | some q=>
                have:(match knows kn x with | some _=>false | none=>true)=true:=h2
                rw [hkx] at this
                cases this
            unfold Way
            rw [wanted_eq hg ht,htm]
            by_cases hbw:b=want
            · rw [if_pos (isWant_eq hbw)]
              unfold specU at hs
              split at hs
              case h_2=>cases hs
              have htw:tm a t=.bool want:=by rw [htm,hbw]
              have h2:=h.rel.knMore (kn:=(t,want)::kn) (knows_cons htw h.rel.kn)
              have hgo:=pvU_sound (o:=o) hE h2 hs
              refine hgo N Q fun v w' g' u hC hU=>?_
              simp only at hC
              split at hC
              · rename_i ag' ls' e1 e2 e3 e4
                simp only [Option.some.injEq,Prod.mk.injEq] at hC
                obtain ⟨rfl,rfl⟩:=hC
                have eu:u=Upd.v (.w ag' ls'):=by
                  obtain ⟨u1,u2,u3,u4⟩:=u
                  simp only at e1 e2 e3 e4
                  subst e1;subst e2;subst e3;subst e4
                  rfl
                subst eu
                have hok:okUpd ⟨st.φ,st.L,st.O,(t,want)::kn,st.sp,st.fr⟩ o.dst (Upd.v (.w ag' ls'))=true:=hfk.2
                have hput:=hU.put h2 h.size hd hok (hfree _ fun x hdd=>by
                  have h3:=hknd x hdd
                  unfold knows
                  have hne:t≠x:=fun e=>hdt (by rw [hdd,e])
                  rw [show Nat.beq t x=false from Bool.eq_false_iff.2 fun e=>hne (Nat.eq_of_beq_eq_true e)]
                  exact h3)
                have hρk:∀ k,g'.ρ k=g.ρ k:=fun k=>by
                  rcases hU.ρn k with e | ⟨e,l,hm⟩
                  · exact e
                  · cases hm
                have hlft:Fr1 o.dst g a w g' (a.put o.dst v) w':=⟨fun i hi=>by rw [tm_put a o.dst v i fun x hx=>by rw [h.size];exact hd x hx,if_neg hi],fun k _=>hρk k,hU.gw,fun k σ _ _=>by rw [hU.H]⟩
                have htm2:tm (a.put o.dst v) t=.bool want:=by rw [tm_put a o.dst v t fun x hx=>by rw [h.size];exact hd x hx,if_neg hdt];exact htw
                have hkn2:∀ t' b',knows kn t'=some b'->tm (a.put o.dst v) t'=.bool b':=fun t' b' hk'=>by
                  rw [tm_put a o.dst v t' fun x hx=>by rw [h.size];exact hd x hx,if_neg fun e=>?_]
                  · exact h.rel.kn t' b' hk'
                  · rw [hknd t' e] at hk';cases hk'
                refine hN _ _ g' _ _ hv ⟨(put_size a o.dst v).trans h.size,(put_defers a o.dst v).trans h.defers,?_⟩ hlft
                cases hdd:o.dst with
                | none=>
                  rw [hdd] at hput hkn2 htm2
                  have:=(hput.knMore hkn2).spMore t
                  exact this
                | some d=>
                  rw [hdd] at hput hkn2 htm2
                  have hput':MRel F g' ⟨putP st.φ (some d) (.w ag' ls'),st.L,putO st.O [] [],(t,want)::kn,st.sp,outN (some d) st.fr⟩ (tm (a.put (some d) v)) w':=hput
                  rw [putO_nil] at hput'
                  exact MRel.toSpec (st:=st) hput' htm2 hkn2
              · cases hC
            · rw [if_neg (isWant_ne hbw)]
              refine hN _ _ g _ _ hv ⟨(put_size a o.dst _).trans h.size,(put_defers a o.dst _).trans h.defers,?_⟩ (put_lft h.size hd _)
              have hkeep:okUpd ⟨st.φ,st.L,st.O,kn,st.sp,st.fr⟩ o.dst (Upd.v (.w ag ls))=true:=hfk.2
              simp only [okUpd,Bool.and_eq_true,List.all_eq_true] at hkeep
              have:=(h.rel.spMore t).putV (d:=o.dst) (p:=.spec t want ag ls) (u:=undef) h.size hd (fun tmf htmf=>⟨b,(htmf t want ag ls rfl).trans htm,fun e=>(hbw e).elim,fun _=>rfl⟩) hft
                (fun t' want' ag' ls' e=>by injection e with e;subst e;exact hasN_iff.2 (by simp)) (fun x hx=>by
                  have h3:=(hkeep.1.1.1.1 x hx).1
                  simp only [Bool.not_eq_true'] at h3
                  exact h3) (fun k hk=>by cases hk)
              exact this
          · cases hv
        · have key : ∀ q : Bool, b = q -> wayU E o want q ((t, q) :: kn) st C = some r -> Way E ops o a w N Q := fun q e hv => by
            subst e
            exact wayU_sound hE hg ht ⟨h.size,h.defers,h.rel.knMore (knows_cons htm h.rel.kn)⟩ htm hd hv hN
          cases b with
          | true=>exact key true rfl hv
          | false=>exact key false rfl hv
    · rename_i vs hb
      rw [hb] at hx'
      have htm:tm a t=.tuple vs:=hx'
      unfold Way
      rw [wanted_eq hg ht,htm,if_neg (by simp [isWant])]
      exact skipU_sound h hd hv hN
    · split at hv
      · rename_i t1 w1 ag1 ls1 hs1
        split at hv
        · rename_i b1 hb1 hk1
          have hx1:=ev_rel h.rel (.tmp t1)
          have hx1':RelP F g w st.O (tm a) (a.eval (.tmp t1)) (evK kn st.φ (.tmp t1)):=hx1
          rw [hb1] at hx1'
          have htm1:tm a t1=.bool b1:=rel_bool hx1'
          have key:∀ q:Bool,b1=q->guardU E o t want n ((t1,q)::kn) st C=some r->Way E ops o a w N Q:=fun q e hv=>by
            subst e
            exact guardU_sound hE hg ht hd hN n _ ⟨h.size,h.defers,h.rel.knMore (knows_cons htm1 h.rel.kn)⟩ hv
          cases b1 with
          | true=>exact key true rfl hv
          | false=>exact key false rfl hv
        · cases hv
      · cases hv
    · cases hv
theorem pvStep_sound (hE:E.okF F) (h:AR F g st a w) (hd:∀ x,o.dst=some x->x < F.n) {C:Rec->PSt->Option R} (hv:pvStep E ops o st C=some r) {N:Act->World->Prop} {Q:Exit->Act->World->Prop}
  (hN:∀ a' w' g' rc st',C rc st'=some r->AR F g' st' a' w'->Fr1 o.dst g a w g' a' w'->N a' w'):Way E ops o a w N Q:=by
 unfold pvStep at hv
 split at hv
 ·rename_i hg
  unfold Way
  rw [if_pos (by simp [Region.wanted,hg])]
  exact stepU_sound hE h hd hv hN
 ·rename_i j want hg
  split at hv
  ·cases hv
  ·rename_i t ht
   exact guardU_sound hE hg ht hd hN 4 _ h hv
theorem pvOps_sound (hE:E.okF F) {M:Nat->Prop} {Q:Exit->Act->World->Prop}:∀ (l:List Oper) (tr:List Rec) (g:Gh) (st:PSt) (a:Act) (w:World) (C:List Rec->PSt->Option R),(∀ o∈l,∀ x,o.dst=some x->x < F.n /\ M x)->AR F g st a w->pvOps E ops l tr st C=some r ->
  (∀ a' w' g' tr' st',C tr' st'=some r->AR F g' st' a' w'->Lft M (fun _=>False) g a w g' a' w'->Q .normal a' w')->wpList E.P ops Q l a w
 | [],tr,g,st,a,w,C,_,h,hv,hQ=>hQ a w g tr st hv h (Lft.refl _ _)
 | o::l,tr,g,st,a,w,C,hd,h,hv,hQ=>by
  refine wpList_step fun K hK=>?_
  unfold pvOps at hv
  refine pvStep_sound (Q:=Q) hE h (fun x hx=>(hd o (by simp) x hx).1) hv fun a' w' g' rc st' hC h' hl=>hK _ _ ?_
  refine pvOps_sound hE l _ g' st' a' w' C (fun o ho=>hd o (by simp [ho])) h' hC fun a2 w2 g2 tr2 st2 hC2 h2 hl2=>hQ a2 w2 g2 tr2 st2 hC2 h2 ?_
  exact (hl.mono (fun i hi=>(hd o (by simp) i hi).2) (fun _ hi=>hi)).trans hl2
end
section
variable {P : Program} {E : Env} {F : Fr} {g g' g0 : Gh} {st st' s : PSt} {a a' a0 : Act} {w w' w0 : World} {o : Oper} {ops : Array Oper} {R : Type} {r : R} {O O' : Tok -> Bool}
def Less (O O':Tok->Bool) (l l':Leaf):Prop:=l'=unown l \/ (l'=l /\ ∀ k E e x,l=.own k E e x->O' k=true->O k=true)
theorem RepL.less {l l':Leaf} {cs:List Value} (h:RepL F g w O l cs) (hl:Less O O' l l'):RepL F g w O' l' cs:=by
 rcases hl with rfl | ⟨rfl,hk⟩
 ·cases l with
  | d t x=>exact h
  | own k E e l=>exact h.1
 ·cases l' with
  | d t x=>exact h
  | own k E e l=>exact ⟨h.1,fun ho=>h.2 (hk k E e l rfl ho)⟩
theorem RepLs.less {f:Leaf->Leaf} (hf:∀ l,Less O O' l (f l)):∀ {ls:List Leaf} {cs:List Value},RepLs F g w O ls cs->RepLs F g w O' (ls.map f) cs
 | [],cs,h=>h
 | l::ls,cs,h=>by
  obtain ⟨c1,c2,rfl,h1,h2⟩:=h
  exact ⟨c1,c2,rfl,h1.less (hf l),RepLs.less hf h2⟩
theorem less_size {l l':Leaf} (h:Less O O' l l'):l'.size=l.size:=by
 rcases h with rfl | ⟨rfl,_⟩
 ·cases l <;> rfl
 ·rfl
theorem sizeLs_map {f:Leaf->Leaf} (hf:∀ l,(f l).size=l.size):∀ {ls:List Leaf},sizeLs (ls.map f)=sizeLs ls
 | []=>rfl
 | l::ls=>by simp [sizeLs,hf l,sizeLs_map hf]
theorem RelV.less {f:Leaf->Leaf} (hf:∀ l,Less O O' l (f l)) {u:Value} {ag:Bool} {ls:List Leaf} (h:RelV F g w O u ag ls):RelV F g w O' u ag (ls.map f):=
 let ⟨cs,h1,h2⟩:=h
 ⟨cs,h1.less hf,h2⟩
theorem RelT.less {f:Leaf->Leaf} (hf:∀ l,Less O O' l (f l)):∀ {us:List Value} {xs:List (Bool×List Leaf)},RelT F g w O us xs->RelT F g w O' us (xs.map fun x=>(x.1,x.2.map f))
 | [],[],_=>trivial
 | u::us,x::xs,h=>⟨h.1.less hf,RelT.less hf h.2⟩
 | [],_::_,h=>h.elim
 | _::_,[],h=>h.elim
theorem LocOk.less {f:Leaf->Leaf} (hf:∀ l,Less O O' l (f l)) {ls:List Leaf} {p:Nat×Nat} (h:LocOk F g w O ls p):LocOk F g w O' (ls.map f) p:=by
 obtain ⟨cur,T,h1,h2,h3,h4,h5⟩:=h
 have hs:sizeLs (ls.map f)=sizeLs ls:=sizeLs_map fun l=>less_size (hf l)
 exact ⟨cur,T,h1,by rw [hs];exact h2,by rw [hs];exact h3.less hf,fun o a b=>h4 o a (by rw [hs] at b;exact b),by rw [hs];exact h5⟩
theorem elem_less {O'':Tok->Bool} {tmf:Nat->Value} {u:Value} {ls:List Leaf} (h:RelP F g w O tmf u (.elem ls)):RelP F g w O'' tmf u (.elem ls):=by
 obtain ⟨ad,cs,h1,h2,h4,h3⟩:=h
 refine ⟨ad,cs,h1,h2.gw (Gw.refl _ _) fun k E e x hx=>?_,h4,h3⟩
 have:=h4 _ hx
 cases this
theorem dropLeaf_less {ds:List Nat} (l:Leaf):Less O (fun t=>!(dropTok ds t)&&O t) l (dropLeaf ds l):=by
 cases l with
 | d t x=>exact .inl rfl
 | own k E e l=>
  unfold dropLeaf
  simp only
  cases hd:dropTok ds k with
  | true=>exact .inl rfl
  | false=>exact .inr ⟨rfl,fun k' E' e' x h ho=>by simp only [Bool.and_eq_true] at ho;exact ho.2⟩
theorem dropLeaf_D {ds:List Nat} {l:Leaf} (h:isD l=true):dropLeaf ds l=l:=by cases l <;> first | rfl | cases h
theorem map_D {f:Leaf->Leaf} (hf:∀ l,isD l=true->f l=l):∀ {ls:List Leaf},(∀ l∈ls,isD l=true)->ls.map f=ls
 | [],_=>rfl
 | l::ls,h=>by rw [List.map_cons,hf l (h l (by simp)),map_D hf fun l hl=>h l (by simp [hl])]
theorem dropLeaf_ment {ds:List Nat} {d:Nat} (hd:hasN ds d=true) (l:Leaf):mentL d (dropLeaf ds l)=false:=by
 cases l with
 | d t x=>rfl
 | own k E e l=>
  unfold dropLeaf
  simp only
  cases hk:dropTok ds k with
  | true=>rfl
  | false=>
   cases k with
   | zero=>rfl
   | hd _ _=>rfl
   | op d' j=>
    have hk':hasN ds d'=false:=hk
    show Nat.beq d' d=false
    exact Bool.eq_false_iff.2 fun e=>by rw [Nat.eq_of_beq_eq_true e,hd] at hk';cases hk'
theorem dropLeaf_ments {ds:List Nat} {d:Nat} (hd:hasN ds d=true):∀ (ls:List Leaf),mentLs d (ls.map (dropLeaf ds))=false
 | []=>rfl
 | l::ls=>by
  show (mentL d (dropLeaf ds l)||mentLs d (ls.map (dropLeaf ds)))=false
  rw [dropLeaf_ment hd,dropLeaf_ments hd ls];rfl
theorem san_rel {tmf:Nat->Value} (ds:List Nat) (hds:∀ d,hasN ds d=true->isPool d=false) (h:MRel F g st tmf w):MRel F g (sanSt ds st) tmf w:=by
 have Lc:∀ k σ ls,(sanSt ds st).L k=some (σ,ls)->hasN ds k=false /\ ∃ l0,st.L k=some (σ,l0) /\ ls=l0.map (dropLeaf ds):=fun k σ ls hL=>by
  have hL':(match hasN ds k with | true=>none | false=>match st.L k with | some (σ,ls)=>some (σ,ls.map (dropLeaf ds)) | none=>none)=some (σ,ls):=hL
  split at hL'
  ·cases hL'
  ·rename_i hk
   split at hL'
   ·rename_i σ' l0 h0
    simp only [Option.some.injEq,Prod.mk.injEq] at hL'
    obtain ⟨rfl,rfl⟩:=hL'
    exact ⟨hk,l0,h0,rfl⟩
   ·cases hL'
 have Ls:∀ k,hasN ds k=false->(st.L k).isSome=true->((sanSt ds st).L k).isSome=true:=fun k hk h0=>by
  obtain ⟨⟨σ,l0⟩,h0⟩:=Option.isSome_iff_exists.1 h0
  show (match hasN ds k with | true=>none | false=>match st.L k with | some (σ,ls)=>some (σ,ls.map (dropLeaf ds)) | none=>none).isSome=true
  rw [hk,h0];rfl
 have Od:∀ k,(sanSt ds st).O k=true->st.O k=true:=fun k hk=>by
  have hk':(!(dropTok ds k)&&st.O k)=true:=hk
  simp only [Bool.and_eq_true] at hk'
  exact hk'.2
 refine ⟨h.fr,fun i=>?_,fun k σ ls hL np=>?_,fun k σ ls hL np=>?_,fun k σ ls hL hσ=>?_,fun t b hb=>by (cases hb),fun i t want ag ls hs=>?_,fun d hd=>⟨fun i=>?_,fun k σ ls hL=>?_,fun j=>?_,?_,hds d hd⟩,fun i k hk=>?_,h.blk0,fun k k' b hk hk'=>h.blkI k k' b (Od k hk) (Od k' hk'),
  fun k b j x hk hb hL np=>?_,fun k b hk=>h.blkS k b (Od k hk),fun k b hk=>h.blkW k b (Od k hk),fun j j' x x' hj hj' np np'=>?_,
  ⟨fun t b ht hb=>h.ows.tok t b (Od t ht) hb,fun k x hL np=>by
   obtain ⟨_,l0,h0,_⟩:=Lc k x.1 x.2 hL
   exact h.ows.loc k _ h0 np,h.ows.lim,h.ows.fr,h.ows.mono,h.ows.i,h.ows.wr⟩⟩
 ·have h1:=h.slots i
  show RelP F g w _ tmf (tmf i) (sanP ds (st.φ i))
  cases hp:st.φ i with
  | w ag ls=>rw [hp] at h1;exact RelV.less dropLeaf_less h1
  | tup xs=>
   rw [hp] at h1
   obtain ⟨us,e,ht⟩:=h1
   exact ⟨us,e,ht.less dropLeaf_less⟩
  | loc k f=>
   rw [hp] at h1
   show RelP F g w _ tmf (tmf i) (match hasN ds k with | true=>.dead | false=>.loc k f)
   cases hasN ds k with
   | true=>trivial
   | false=>exact h1
  | locE k f e j q=>
   rw [hp] at h1
   show RelP F g w _ tmf (tmf i) (match hasN ds k with | true=>.dead | false=>.locE k f e j q)
   cases hasN ds k with
   | true=>trivial
   | false=>exact h1
  | row k m t=>
   rw [hp] at h1
   show RelP F g w _ tmf (tmf i) (match hasN ds k with | true=>.dead | false=>.row k m t)
   cases hasN ds k with
   | true=>trivial
   | false=>exact h1
  | elem ls=>rw [hp] at h1;exact elem_less h1
  | raw v=>rw [hp] at h1;exact h1
  | spec _ _ _ _=>trivial
  | fp T j f=>rw [hp] at h1;exact h1
  | fe T j f i=>rw [hp] at h1;exact h1
  | fv k j q E0 e l v=>rw [hp] at h1;exact h1
  | fa k j q E0 e l n v t=>
   rw [hp] at h1
   show RelP F g w _ tmf (tmf i) (match dropTok ds t with | true=>.dead | false=>.fa k j q E0 e l n v t)
   cases dropTok ds t with
   | true=>trivial
   | false=>exact ⟨h1.1,h1.2.1,fun ho hv=>h1.2.2 (Od t ho) hv⟩
  | un E0 l q t=>
   rw [hp] at h1
   show RelP F g w _ tmf (tmf i) (match dropTok ds t with | true=>.dead | false=>.un E0 l q t)
   cases dropTok ds t with
   | true=>trivial
   | false=>exact fun ho=>h1 (Od t ho)
  | dead=>trivial
 ·obtain ⟨hk,l0,h0,rfl⟩:=Lc k σ ls hL
  exact (h.locals k σ l0 h0 np).less dropLeaf_less
 ·obtain ⟨hk,l0,h0,rfl⟩:=Lc k σ ls hL
  have hp:=h.pools k σ l0 h0 np
  have hD:∀ l∈l0,isD l=true:=by
   obtain ⟨e,l,h1,_⟩:=hp
   rcases h1 with ⟨v,h1,_⟩ | h1 <;> (rw [h1];intro l hl;rw [List.mem_singleton.1 hl];rfl)
  rw [map_D (fun l hl=>dropLeaf_D hl) hD]
  exact hp
 ·obtain ⟨hk,l0,h0,rfl⟩:=Lc k σ ls hL
  obtain ⟨q1,q2⟩:=h.hist k σ l0 h0 hσ
  rw [map_D (fun l hl=>dropLeaf_D hl) q2]
  exact ⟨q1,q2⟩
 ·exfalso
  have hs':sanP ds (st.φ i)=.spec t want ag ls:=hs
  cases hp:st.φ i <;> rw [hp] at hs' <;> simp only [sanP] at hs' <;> first | (cases hs';done) | (split at hs' <;> cases hs')
 ·show mentP d (sanP ds (st.φ i))=false
  have hd':hasN ds d=true:=hd
  cases hp:st.φ i with
  | w ag ls=>exact dropLeaf_ments hd' ls
  | tup xs=>
   show ((xs.map fun x=>(x.1,x.2.map (dropLeaf ds))).any fun x=>mentLs d x.2)=false
   rw [List.any_map]
   apply Bool.eq_false_iff.2
   intro hany
   obtain ⟨x,_,hx⟩:=List.any_eq_true.1 hany
   have:mentLs d (x.2.map (dropLeaf ds))=true:=hx
   rw [dropLeaf_ments hd'] at this
   cases this
  | loc k f=>
   show mentP d (match hasN ds k with | true=>.dead | false=>.loc k f)=false
   cases hk:hasN ds k with
   | true=>rfl
   | false=>exact Bool.eq_false_iff.2 fun e=>by rw [Nat.eq_of_beq_eq_true e,hd'] at hk;cases hk
  | locE k f e j q=>
   show mentP d (match hasN ds k with | true=>.dead | false=>.locE k f e j q)=false
   cases hk:hasN ds k with
   | true=>rfl
   | false=>exact Bool.eq_false_iff.2 fun e=>by rw [Nat.eq_of_beq_eq_true e,hd'] at hk;cases hk
  | row k m t=>
   show mentP d (match hasN ds k with | true=>.dead | false=>.row k m t)=false
   cases hk:hasN ds k with
   | true=>rfl
   | false=>exact Bool.eq_false_iff.2 fun e=>by rw [Nat.eq_of_beq_eq_true e,hd'] at hk;cases hk
  | elem ls=>rfl
  | raw v=>rfl
  | spec _ _ _ _=>rfl
  | fp _ _ _=>rfl
  | fe _ _ _ _=>rfl
  | fv _ _ _ _ _ _ _=>rfl
  | un E0 l q t=>
   show mentP d (match dropTok ds t with | true=>.dead | false=>.un E0 l q t)=false
   cases hk:dropTok ds t with
   | true=>rfl
   | false=>
    cases t with
    | op d' j'=>
     refine Bool.eq_false_iff.2 fun e=>?_
     have e2:d'=d:=Nat.eq_of_beq_eq_true e
     have hk2:hasN ds d'=false:=hk
     rw [e2,hd'] at hk2;cases hk2
    | _=>rfl
  | fa k j q E0 e l n v t=>
   show mentP d (match dropTok ds t with | true=>.dead | false=>.fa k j q E0 e l n v t)=false
   cases hk:dropTok ds t with
   | true=>rfl
   | false=>
    cases t with
    | op d' j'=>
     refine Bool.eq_false_iff.2 fun e=>?_
     have e2:d'=d:=Nat.eq_of_beq_eq_true e
     have hk2:hasN ds d'=false:=hk
     rw [e2,hd'] at hk2;cases hk2
    | zero=>rfl
    | hd _ _=>rfl
  | dead=>rfl
 ·obtain ⟨_,l0,_,rfl⟩:=Lc k σ ls hL
  exact dropLeaf_ments hd l0
 ·show (!(hasN ds d)&&st.O (.op d j))=false
  rw [show hasN ds d=true from hd];rfl
 ·show (match hasN ds d with | true=>none | false=>match st.L d with | some (σ,ls)=>some (σ,ls.map (dropLeaf ds)) | none=>none)=none
  rw [show hasN ds d=true from hd]
 ·have hk':k∈keyP (sanP ds (st.φ i)):=hk
  have key:k∈keyP (st.φ i) /\ hasN ds k=false:=by
   cases hp:st.φ i <;> rw [hp] at hk' <;> simp only [sanP] at hk'
   case loc k0 f=>
    cases hh:hasN ds k0 with
    | true=>rw [hh] at hk';cases hk'
    | false=>
     rw [hh] at hk'
     have e:k=k0:=by simpa [keyP] using hk'
     rw [e];exact ⟨by simp [keyP],hh⟩
   case row k0 m t=>
    cases hh:hasN ds k0 with
    | true=>rw [hh] at hk';cases hk'
    | false=>
     rw [hh] at hk'
     have e:k=k0:=by simpa [keyP] using hk'
     rw [e];exact ⟨by simp [keyP],hh⟩
   case locE k0 f e j q=>
    cases hh:hasN ds k0 with
    | true=>rw [hh] at hk';cases hk'
    | false=>
     rw [hh] at hk'
     have e:k=k0:=by simpa [keyP] using hk'
     rw [e];exact ⟨by simp [keyP],hh⟩
   case fa k0 j q E0 e l n v t=>split at hk' <;> cases hk'
   case un E0 l q t=>split at hk' <;> cases hk'
   all_goals cases hk'
  exact Ls k key.2 (h.locL i k key.1)
 ·obtain ⟨x1,x2⟩:=x
  obtain ⟨_,l0,h0,_⟩:=Lc j x1 x2 hL
  exact h.blkL k b j _ (Od k hk) hb h0 np
 ·obtain ⟨x1,x2⟩:=x
  obtain ⟨y1,y2⟩:=x'
  obtain ⟨_,l0,h0,_⟩:=Lc j x1 x2 hj
  obtain ⟨_,l1,h1,_⟩:=Lc j' y1 y2 hj'
  exact h.ρI j j' _ _ h0 h1 np np'
theorem unown_less (l:Leaf):Less O O' l (unown l):=.inl rfl
theorem unown_D (l:Leaf):isD (unown l)=true:=by cases l <;> rfl
theorem unown_same {l:Leaf} (h:isD l=true):unown l=l:=by cases l <;> first | rfl | cases h
end
section
variable {P : Program} {E : Env} {F : Fr} {g g' g0 : Gh} {st st' s : PSt} {a a' a0 : Act} {w w' w0 : World} {R : Type} {r : R} {O O' : Tok -> Bool} {σ : Tok -> Tok -> Prop}
theorem slotLs_len {φ:Nat->PV}:∀ {sl:List (Nat×Bool×List LT)} {la:List Leaf},slotLs φ sl=some la->la.length=lenTs sl
 | [],la,h=>by
  simp only [slotLs,Option.some.injEq] at h
  subst h;rfl
 | (i,ag,ts)::r,la,h=>by
  unfold slotLs at h
  split at h
  ·rename_i ag' ls l hp hr
   split at h
   ·rename_i hb
    simp only [Bool.and_eq_true] at hb
    simp only [Option.some.injEq] at h
    subst h
    have:=slotLs_len hr
    have hl:=Nat.eq_of_beq_eq_true hb.2
    unfold lenTs at this ⊢
    simp [this,hl]
   ·cases h
  ·cases h
theorem slot_at {φ:Nat->PV} {rest:List Leaf} {i:Nat} {p:PV}:∀ {sl:List (Nat×Bool×List LT)} {la:List Leaf},slotLs φ sl=some la->nthS sl (la++rest) i=some p->φ i=p
 | [],la,_,hn=>by cases hn
 | (j,ag,ts)::r,la,h,hn=>by
  unfold slotLs at h
  split at h
  ·rename_i ag' ls l hp hr
   split at h
   ·rename_i hb
    simp only [Bool.and_eq_true] at hb
    simp only [Option.some.injEq] at h
    subst h
    have hl:ls.length=ts.length:=Nat.eq_of_beq_eq_true hb.2
    have hag:=bEq_iff.1 hb.1
    unfold nthS at hn
    rw [<-hl,List.append_assoc,List.take_left,List.drop_left] at hn
    split at hn
    ·rename_i hij
     have e:i=j:=Nat.eq_of_beq_eq_true hij
     injection hn with hn
     rw [e,hp,<- hn,hag]
    ·exact slot_at hr hn
   ·cases h
  ·cases h
theorem nthS_same:∀ {sl:List (Nat×Bool×List LT)} {q q':List Leaf} {i:Nat} {p':PV},SameLs σ q q'->nthS sl q' i=some p' -> ∃ ag l l',p'=.w ag l' /\ nthS sl q i=some (.w ag l) /\ SameLs σ l l'
 | [],_,_,_,_,_,h=>by cases h
 | (j,ag,ts)::r,q,q',i,p',hs,h=>by
  unfold nthS at h
  split at h
  ·rename_i hij
   injection h with h
   refine ⟨ag,q.take ts.length,q'.take ts.length,h.symm,?_,hs.take _⟩
   unfold nthS
   rw [hij]
  ·rename_i hij
   obtain ⟨ag',l,l',h1,h2,h3⟩:=nthS_same (hs.drop ts.length) h
   refine ⟨ag',l,l',h1,?_,h3⟩
   unfold nthS
   rw [hij];exact h2
theorem local_at {L:Nat->Option (Nat×List Leaf)} {k:Nat} {l:List Leaf}:∀ {lo:List (Nat×List LT)} {lb:List Leaf},localLs L lo=some lb->nthL lo lb k=some l -> ∃ σ,L k=some (σ,l)
 | [],la,_,hn=>by cases hn
 | (j,ts)::r,lb,h,hn=>by
  unfold localLs at h
  split at h
  ·rename_i σ ls q hp hr
   split at h
   ·rename_i hb
    simp only [Option.some.injEq] at h
    subst h
    have hl:ls.length=ts.length:=Nat.eq_of_beq_eq_true hb
    unfold nthL at hn
    rw [<-hl,List.take_left,List.drop_left] at hn
    split at hn
    ·rename_i hij
     have e:k=j:=Nat.eq_of_beq_eq_true hij
     injection hn with hn
     exact ⟨σ,by rw [e,hp,<- hn]⟩
    ·exact local_at hr hn
   ·cases h
  ·cases h
theorem nthL_same:∀ {lo:List (Nat×List LT)} {q q':List Leaf} {k:Nat} {l':List Leaf},SameLs σ q q'->nthL lo q' k=some l' -> ∃ l,nthL lo q k=some l /\ SameLs σ l l'
 | [],_,_,_,_,_,h=>by cases h
 | (j,ts)::r,q,q',k,l',hs,h=>by
  unfold nthL at h
  split at h
  ·rename_i hij
   injection h with h
   refine ⟨q.take ts.length,?_,by rw [<-h];exact hs.take _⟩
   unfold nthL
   rw [hij]
  ·rename_i hij
   obtain ⟨l,h2,h3⟩:=nthL_same (hs.drop ts.length) h
   refine ⟨l,?_,h3⟩
   unfold nthL
   rw [hij];exact h2
theorem nthL_has:∀ {lo:List (Nat×List LT)} {q:List Leaf} {k:Nat},hasN (lo.map (·.1)) k=true -> ∃ l,nthL lo q k=some l
 | [],q,k,h=>by cases h
 | (j,ts)::r,q,k,h=>by
  unfold nthL
  cases hb:Nat.beq k j with
  | true=>exact ⟨_,rfl⟩
  | false=>
   have hm:=hasN_iff.1 h
   simp only [List.map_cons,List.mem_cons] at hm
   rcases hm with e | hm
   ·rw [e] at hb;simp at hb
   ·exact nthL_has (hasN_iff.2 hm)
theorem LocOk.turn {F':Fr} (T:Turn F g O F' g' O' σ) (hF:∀ b o,Wr F b o->Wr F' b o) {ls ls':List Leaf} (hs:SameLs σ ls ls') {p:Nat×Nat} (h:LocOk F g w O ls p):LocOk F' g' w O' ls' p:=by
 obtain ⟨cur,T0,h1,h2,h3,h4,h5⟩:=h
 refine ⟨cur,T0,h1,by rw [hs.sizes];exact h2,by rw [hs.sizes];exact h3.turn T hs,fun o x y=>?_,by rw [hs.sizes];exact h5⟩
 rw [hs.sizes] at y
 obtain ⟨z1,z2⟩:=h4 o x y
 exact ⟨by rw [T.C];exact z1,hF _ _ z2⟩
def headG (g:Gh) (n:Ann) (st:PSt) (ks:List Tok):Gh:=
 ⟨g.C,fun t=>match t with | .hd i j=>(match Nat.beq i n.id with | true=>g.blk (ks.getD j .zero) | false=>none) | _=>none,g.ρ,fun k σ=>match Nat.beq σ n.id with | true=>(match keptL n st k with | some (_,ls)=>ls | none=>[]) | false=>g.H k σ,g.ow,fun k=>match hasN (n.pls.map (·.1)) k with | true=>0 | false=>g.ver k⟩
theorem headG_H {n:Ann} {ks:List Tok} {k σ:Nat} (h:σ≠n.id):(headG g n st ks).H k σ=g.H k σ:=by
 show (match Nat.beq σ n.id with | true=>_ | false=>g.H k σ)=_
 rw [show Nat.beq σ n.id=false from Bool.eq_false_iff.2 fun e=>h (Nat.eq_of_beq_eq_true e)]
theorem keptL_some {n:Ann} {k σ:Nat} {ls:List Leaf} (h:keptL n st k=some (σ,ls)):σ=n.id /\ k∈n.kept /\ ∃ σ0 l0,st.L k=some (σ0,l0) /\ ls=l0.map unown:=by
 unfold keptL at h
 split at h
 ·rename_i hk
  split at h
  ·rename_i σ0 l0 h0
   simp only [Option.some.injEq,Prod.mk.injEq] at h
   exact ⟨h.1.symm,hasN_iff.1 hk,σ0,l0,h0,h.2.symm⟩
  ·cases h
 ·cases h
theorem unownP_rel {tmf tmf':Nat->Value} {u:Value} {p:PV} (h:RelP F g0 w0 O tmf u p) (G:Gw w0 g0.C w g.C) (hρ:∀ k,k∈keyP p->g.ρ k=g0.ρ k):RelP F g w O' tmf' u (unownP p):=by
 have hd:∀ (ls:List Leaf) k E e x,Leaf.own k E e x∈ls.map unown->False:=fun ls k E e x hm=>by
  obtain ⟨l,_,hl⟩:=List.mem_map.1 hm
  have:=unown_D l
  rw [hl] at this;cases this
 cases p with
 | w ag ls=>exact (RelV.less (O':=O') unown_less h).gw G fun k E e x hm=>(hd ls k E e x hm).elim
 | tup xs=>
  obtain ⟨us,e,ht⟩:=h
  refine ⟨us,e,(RelT.less (O':=O') unown_less ht).gw G fun k E e x ⟨y,hy,hm⟩=>?_⟩
  obtain ⟨z,_,rfl⟩:=List.mem_map.1 hy
  exact (hd z.2 k E e x hm).elim
 | loc k f=>
  refine ⟨h.1,?_⟩
  rw [hρ k (by simp [keyP])];exact h.2
 | locE k f e j q=>
  refine ⟨h.1,h.2.1,?_⟩
  rw [hρ k (by simp [keyP])];exact h.2.2
 | row k m t=>
  obtain ⟨h0,cap,h1,h2⟩:=h
  refine ⟨h0,cap,?_,h2⟩
  rw [hρ k (by simp [keyP])];exact h1
 | elem ls=>exact RelP.gw (tmf':=tmf') (elem_less (O'':=O') h) G (fun k hk=>hk.elim) (fun k hk=>by cases hk) (fun _ _ _ _ e=>by cases e) (fun _ hk=>by cases hk)
 | raw v=>exact h
 | spec _ _ _ _=>trivial
 | fp T j f=>
  obtain ⟨n,b,h1,h2,h3⟩:=h
  exact ⟨n,b,h1,G.i _ _ _ h2,h3⟩
 | fe T j f i=>
  obtain ⟨h0,n,b,h1,h2,h3⟩:=h
  exact ⟨h0,n,b,h1,G.i _ _ _ h2,h3⟩
 | fv _ _ _ _ _ _ _=>trivial
 | fa _ _ _ _ _ _ _ _ _=>trivial
 | un _ _ _ _=>trivial
 | dead=>trivial
theorem slotLs_arr (h:MRel F g s (tm a) w):∀ {sl:List (Nat×Bool×List LT)} {la:List Leaf},slotLs s.φ sl=some la -> ∀ l∈la,arrOk l
 | [],la,hs,l,hl=>by
  simp only [slotLs,Option.some.injEq] at hs
  subst hs
  cases hl
 | (i,ag,ts)::r,la,hs,l,hl=>by
  unfold slotLs at hs
  split at hs
  ·rename_i ag' ls q hφ hq
   split at hs
   ·injection hs with hs
    subst hs
    rcases List.mem_append.1 hl with hl | hl
    ·have h0:=h.slots i
     rw [hφ] at h0
     obtain ⟨cs,h1,_⟩:=h0
     exact repLs_arr h1 l hl
    ·exact slotLs_arr h hq l hl
   ·cases hs
  ·cases hs
theorem localLs_arr (h:MRel F g s (tm a) w):∀ {lo:List (Nat×List LT)} {lb:List Leaf},(∀ p∈lo,isPool p.1=false)->localLs s.L lo=some lb -> ∀ l∈lb,arrOk l
 | [],lb,hn,hs,l,hl=>by
  simp only [localLs,Option.some.injEq] at hs
  subst hs
  cases hl
 | (k,ts)::r,lb,hn,hs,l,hl=>by
  unfold localLs at hs
  split at hs
  ·rename_i σ ls q hL hq
   split at hs
   ·injection hs with hs
    subst hs
    rcases List.mem_append.1 hl with hl | hl
    ·obtain ⟨cur,T,_,_,h1,_⟩:=h.locals k σ ls hL (hn (k,ts) (List.mem_cons_self ..))
     exact repLs_arr h1 l hl
    ·exact localLs_arr h (fun p hp=>hn p (List.mem_cons_of_mem _ hp)) hq l hl
   ·cases hs
  ·cases hs
theorem head_rel {n:Ann} {x:n.D} {hd:PSt} {M I:Nat->Prop} (hok:n.okK=true) (h0:MRel F g0 st (tm a0) w0) (hl:Lft M I g0 a0 w0 g a w) (hM:∀ i,M i->n.has i=true) (h:MRel F g s (tm a) w) (hc:collect n s=some x)
    (hk:∀ k,k∈n.kept -> ∀ σ0 ls0,st.L k=some (σ0,ls0) -> ∃ σ ls,s.L k=some (σ,ls) /\ ls.map unown=ls0.map unown) (hh:headSt n st x=some hd) :
    ∃ g',MRel F g' hd (tm a) w /\ g'.C=g.C /\ g'.ρ=g.ρ /\ (∀ k σ,σ≠n.id->g'.H k σ=g.H k σ) /\ ∀ k ls,keptL n st k=some (n.id,ls)->g'.H k n.id=ls:=by
  unfold collect at hc
  split at hc
  case h_1=>cases hc
  rename_i hlc
  split at hc
  case h_2=>cases hc
  rename_i la lb hla hlb
  split at hc
  case h_2=>cases hc
  rename_i ks xs ps htake htp
  split at hc
  case h_2=>cases hc
  rename_i hdt
  have hun:unpackD n.tys x=xs++ps:=unpack_pack _ _ _ hc
  unfold headSt at hh
  rw [hun,List.take_left' (takeAll_len htake),List.drop_left' (takeAll_len htake)] at hh
  split at hh
  · cases hh
  · cases hh
  rename_i ls' plH hmk hmp
  injection hh with hh
  simp only [Ann.okK,Bool.and_eq_true] at hok
  obtain ⟨⟨hpls,hkp⟩,hnp⟩:=hok
  have hnp':∀ p∈n.locals,isPool p.1=false:=fun p hp=>by
    have:=List.all_eq_true.1 hnp p hp
    simpa using this
  have plH1:∀ k y,findL plH k=some y->isPool k=true /\ hasN (n.pls.map (·.1)) k=true /\ ∃ e wr b v l,poolL s.L k=some (b,v,⟨e,l⟩) /\ (wr=true->b=true) /\ y=(0,[poolLeaf wr 0 e l]):=fun k y hy=>by
    obtain ⟨e,wr,b,v,l,q1,q2,q3,q4⟩:=take_mkPools htp hmp hy
    exact ⟨okPls_pool hpls q1,hasN_iff.2 (List.mem_map.2 ⟨_,q1,rfl⟩),e,wr,b,v,l,q2,q3,q4⟩
  obtain ⟨hsame,_⟩:=take_mk (fun l hl=>.inl (by
    rcases List.mem_append.1 hl with hl | hl
    · exact slotLs_arr h hla l hl
    · exact localLs_arr h hnp' hlb l hl)) htake hmk
  have T:Turn F g s.O F (headG g n st ks) (fun t=>hasT (.zero::labs (Tok.hd n.id) n.ts 0) t) (fun k k'=>TokAt n.ts ks (Tok.hd n.id) 0 k k' /\ s.O k=true):=by
    refine ⟨rfl,fun k k' hσ _=>⟨hσ.2,?_⟩,fun k k' b o _ _ _ _ hw=>hw⟩
    obtain ⟨⟨i,E,e,h1,h2,rfl⟩,_⟩:=hσ
    show (match Nat.beq n.id n.id with | true=>g.blk (ks.getD (0+i) .zero) | false=>none)=_
    rw [show Nat.beq n.id n.id=true by simp,List.getD_eq_getElem?_getD,Nat.zero_add,h2];rfl
  have liveH:∀ k,hasT (.zero::labs (Tok.hd n.id) n.ts 0) k=true->k=.zero \/ ∃ i k0,k=.hd n.id i /\ ks[i]? = some k0 /\ s.O k0=true /\ (headG g n st ks).blk k=g.blk k0:=fun k hk=>by
    rcases List.mem_cons.1 (hasT_iff.1 hk) with rfl | hm
    · exact .inl rfl
    · obtain ⟨i,E,e,h1,rfl⟩:=labs_mem.1 hm
      obtain ⟨k0,q1,q2⟩:=take_ks htake i E e h1
      refine .inr ⟨i,k0,by rw [Nat.zero_add],q1,q2,?_⟩
      show (match Nat.beq n.id n.id with | true=>g.blk (ks.getD (0+i) .zero) | false=>none)=_
      rw [show Nat.beq n.id n.id=true by simp,List.getD_eq_getElem?_getD,Nat.zero_add,q1];rfl
  have hlen:la.length=lenTs n.slots:=slotLs_len hla
  -- the locals of the head
  have locH : ∀ k σ l, hd.L k = some (σ, l) -> (σ = 0 /\ ((isPool k = false /\ ∃ σ1 l1, s.L k = some (σ1, l1) /\ SameLs (fun k k' => TokAt n.ts ks (Tok.hd n.id) 0 k k' /\ s.O k = true) l1 l) \/ findL plH k = some (0, l))) \/
      (σ=n.id /\ keptL n st k=some (n.id,l) /\ (∀ y∈l,isD y=true) /\ ∃ σ1 l1,s.L k=some (σ1,l1) /\ l=l1.map unown):=fun k σ l hL=>by
    rw [<-hh] at hL
    have hL':(match nthL n.locals (ls'.drop (lenTs n.slots)) k with | some l=>some (0,l) | none=>match findL plH k with | some x=>some x | none=>keptL n st k)=some (σ,l):=hL
    split at hL'
    · rename_i l0 hn
      simp only [Option.some.injEq,Prod.mk.injEq] at hL'
      obtain ⟨rfl,rfl⟩:=hL'
      obtain ⟨l1,h1,h2⟩:=nthL_same (hsame.drop (lenTs n.slots)) hn
      rw [<-hlen,List.drop_left] at h1
      obtain ⟨σ1,h3⟩:=local_at hlb h1
      have hin:∀ {lo:List (Nat×List LT)} {q l:List Leaf},nthL lo q k=some l -> ∃ p∈lo,p.1=k:=by
        intro lo
        induction lo with
        | nil=>intro q l e;cases e
        | cons y lo ih=>
          intro q l e
          obtain ⟨j,ts⟩:=y
          unfold nthL at e
          split at e
          · rename_i hb
            exact ⟨_,List.mem_cons_self ..,(Nat.eq_of_beq_eq_true hb).symm⟩
          · obtain ⟨p,hp,e2⟩:=ih e
            exact ⟨p,List.mem_cons_of_mem _ hp,e2⟩
      obtain ⟨p,hp,e2⟩:=hin h1
      exact .inl ⟨rfl,.inl ⟨by rw [<-e2];exact hnp' p hp,σ1,l1,h3,h2⟩⟩
    split at hL'
    · rename_i y hy
      obtain ⟨e1,_⟩:=findL_mem hy
      cases hL'
      have e1:σ=0:=e1
      subst e1
      exact .inl ⟨rfl,.inr hy⟩
    · obtain ⟨e1,e2,σ0,l0,e3,e4⟩:=keptL_some hL'
      obtain ⟨σ1,l1,q1,q2⟩:=hk k e2 σ0 l0 e3
      subst e1
      exact .inr ⟨rfl,hL',by rw [e4];intro y hy;obtain ⟨z,_,rfl⟩:=List.mem_map.1 hy;exact unown_D z,σ1,l1,q1,by rw [e4,q2]⟩
  have locS:∀ k y,hd.L k=some y->isPool k=false -> ∃ z,s.L k=some z:=fun k y hy np=>by
    rcases locH k y.1 y.2 hy with ⟨_,⟨_,σ1,l1,h1,_⟩ | h1⟩ | ⟨_,_,_,σ1,l1,h1,_⟩
    · exact ⟨_,h1⟩
    · rw [(plH1 k _ h1).1] at np;cases np
    · exact ⟨_,h1⟩
  have hO:∀ k,hd.O k=hasT (.zero::labs (Tok.hd n.id) n.ts 0) k:=fun k=>by rw [<-hh]
  have slotH:∀ i,(hd.φ i=.loc i 0 /\ s.φ i=.loc i 0 /\ (hd.L i).isSome=true) \/ (∃ ag l l',hd.φ i=.w ag l' /\ s.φ i=.w ag l /\ SameLs (fun k k'=>TokAt n.ts ks (Tok.hd n.id) 0 k k' /\ s.O k=true) l l') \/ hd.φ i=.dead \/ (n.has i=false /\ hd.φ i=unownP (st.φ i) /\ ∀ k,k∈keyP (st.φ i)->n.has k=false /\ n.knowsL st k=true):=fun i=>by
    rw [<-hh]
    show ((match nthS n.slots ls' i with | some p=>p | none=>_)=PV.loc i 0 /\ _ /\ Option.isSome (match nthL n.locals (ls'.drop (lenTs n.slots)) i with | some l=>some (0,l) | none=>match findL plH i with | some x=>some x | none=>keptL n st i)=true) \/ (∃ ag l l',(match nthS n.slots ls' i with | some p=>p | none=>_)=PV.w ag l' /\ _) \/ (match nthS n.slots ls' i with | some p=>p | none=>_)=PV.dead \/ (_ /\ (match nthS n.slots ls' i with | some p=>p | none=>_)=_ /\ _)
    cases hn:nthS n.slots ls' i with
    | some p=>
      obtain ⟨ag,l,l',h1,h2,h3⟩:=nthS_same hsame hn
      exact .inr (.inl ⟨ag,l,l',h1,slot_at hla h2,h3⟩)
    | none=>
      simp only
      cases hil:n.isLc i with
      | true=>
        left
        have hil':(hasN n.lcs i&&hasN (n.locals.map (·.1)) i)=true:=hil
        rw [Bool.and_eq_true] at hil'
        refine ⟨rfl,?_,?_⟩
        · have h1:=List.all_eq_true.1 hlc i (hasN_iff.1 hil'.1)
          cases hp:s.φ i with
          | loc j off=>
            rw [hp] at h1
            have h1:(Nat.beq j i&&Nat.beq off 0)=true:=h1
            rw [Bool.and_eq_true] at h1
            rw [Nat.eq_of_beq_eq_true h1.1,Nat.eq_of_beq_eq_true h1.2]
          | _=>rw [hp] at h1;cases h1
        · obtain ⟨l,hl'⟩:=nthL_has (q:=ls'.drop (lenTs n.slots)) hil'.2
          rw [hl'];rfl
      | false=>
      right
      right
      simp only
      cases hdd:hasN n.dead i with
      | true=>exact .inl rfl
      | false=>
        simp only
        have hnot:n.has i=false:=by
          unfold Ann.has
          rw [hdd,Bool.false_or]
          apply Bool.eq_false_iff.2
          intro hany
          obtain ⟨p,hp,hb⟩:=List.any_eq_true.1 hany
          have hsome:∀ (sl:List (Nat×Bool×List LT)) (q:List Leaf),p∈sl->nthS sl q i≠none:=by
            intro sl
            induction sl with
            | nil=>intro q hm;cases hm
            | cons y sl ih=>
              intro q hm
              obtain ⟨j,ag,ts⟩:=y
              unfold nthS
              cases hij:Nat.beq i j with
              | true=>simp
              | false=>
                rcases List.mem_cons.1 hm with rfl | hm
                · rw [hij] at hb;cases hb
                · exact ih _ hm
          exact hsome _ _ hp hn
        cases hp:st.φ i with
        | w ag l=>exact .inr ⟨hnot,rfl,fun k hk=>by cases hk⟩
        | tup xs=>exact .inr ⟨hnot,rfl,fun k hk=>by cases hk⟩
        | elem l=>exact .inr ⟨hnot,rfl,fun k hk=>by cases hk⟩
        | raw v=>exact .inr ⟨hnot,rfl,fun k hk=>by cases hk⟩
        | fp _ _ _=>exact .inr ⟨hnot,rfl,fun k hk=>by cases hk⟩
        | fe _ _ _ _=>exact .inr ⟨hnot,rfl,fun k hk=>by cases hk⟩
        | fv _ _ _ _ _ _ _=>exact .inl rfl
        | fa _ _ _ _ _ _ _ _ _=>exact .inl rfl
        | un _ _ _ _=>exact .inl rfl
        | spec _ _ _ _=>exact .inl rfl
        | dead=>exact .inl rfl
        | loc k f=>
          simp only [unownP]
          cases hb:(!(n.has k)&&n.knowsL st k) with
          | false=>exact .inl rfl
          | true=>
            simp only [Bool.and_eq_true,Bool.not_eq_true'] at hb
            exact .inr ⟨hnot, rfl, fun k' hk => by have e : k' = k := by simpa [keyP] using hk
                                                   rw [e];exact hb⟩
        | row k m t=>
          simp only [unownP]
          cases hb:(!(n.has k)&&n.knowsL st k) with
          | false=>exact .inl rfl
          | true=>
            simp only [Bool.and_eq_true,Bool.not_eq_true'] at hb
            exact .inr ⟨hnot, rfl, fun k' hk => by have e : k' = k := by simpa [keyP] using hk
                                                   rw [e];exact hb⟩
        | locE k f e j q=>
          simp only [unownP]
          cases hb:(!(n.has k)&&n.knowsL st k) with
          | false=>exact .inl rfl
          | true=>
            simp only [Bool.and_eq_true,Bool.not_eq_true'] at hb
            exact .inr ⟨hnot, rfl, fun k' hk => by have e : k' = k := by simpa [keyP] using hk
                                                   rw [e];exact hb⟩
  have notM:∀ i,n.has i=false -> ¬ M i:=fun i hi hm=>by rw [hM i hm] at hi;cases hi
  refine ⟨headG g n st ks, ⟨h.fr, fun i => ?_, fun k σ l hL np => ?_, fun k σ l hL np => ?_, fun k σ l hL hσ => ?_, fun t b hb => ?_, fun i t want ag l hs => ?_, fun d hdd => ?_, fun i k hkk => ?_, rfl, fun k k' b hk1 hk2 hb hb' => ?_, fun k b j y hk1 hb hL np => ?_, fun k b hk1 hb => ?_, fun k b hk1 hb => ?_, fun j j' y y' hj hj' np np' he => ?_,
      ⟨fun t b ht hb=>?_,fun k y hy np=>?_,h.ows.lim,h.ows.fr,h.ows.mono,h.ows.i,h.ows.wr⟩⟩,
    rfl,rfl,fun k σ hne=>headG_H hne,fun k ls hkl=>?_⟩
  · rcases slotH i with ⟨e1,e2,_⟩ | ⟨ag,l,l',e1,e2,e3⟩ | e | ⟨e1,e2,e3⟩
    · have h1:=h.slots i
      rw [e2] at h1
      rw [e1]
      exact h1
    · rw [e1]
      have h1:=h.slots i
      rw [e2] at h1
      have h2:RelV F g w s.O (tm a i) ag l:=h1
      have h3:=h2.turn T e3
      obtain ⟨cs,q1,q2⟩:=h3
      refine ⟨cs,?_,q2⟩
      have:hd.O=fun t=>hasT (.zero::labs (Tok.hd n.id) n.ts 0) t:=funext hO
      rw [this];exact q1
    · rw [e];trivial
    · rw [e2,hl.tmp i (notM i e1)]
      exact unownP_rel (h0.slots i) hl.gw fun k hk=>hl.ρ k (notM k (e3 k hk).1)
  · have eO:hd.O=fun t=>hasT (.zero::labs (Tok.hd n.id) n.ts 0) t:=funext hO
    rw [eO]
    rcases locH k σ l hL with ⟨_,⟨_,σ1,l1,h1,h2⟩ | h1⟩ | ⟨_,_,_,σ1,l1,h1,h2⟩
    · exact (h.locals k σ1 l1 h1 np).turn T (fun _ _ hw=>hw) h2
    · rw [(plH1 k _ h1).1] at np;cases np
    · rw [h2]
      have h3:=LocOk.less (O':=fun _=>false) unown_less (h.locals k σ1 l1 h1 np)
      obtain ⟨cur,T0,c1,c2,c3,c4⟩:=h3
      refine ⟨cur,T0,c1,c2,c3.gw (g':=headG g n st ks) (Gw.refl w g.C) fun k' E e x hm=>?_,c4⟩
      obtain ⟨z,_,hz⟩:=List.mem_map.1 hm
      have:=unown_D z
      rw [hz] at this;cases this
  · rcases locH k σ l hL with ⟨_,⟨np',_⟩ | h1⟩ | ⟨_,hkl,_,σ1,l1,h1,h2⟩
    · rw [np'] at np;cases np
    · obtain ⟨_,hin,e,wr,b0,v,l0,q1,q3,q2⟩:=plH1 k _ h1
      cases q2
      refine pool_lend h q1 np rfl rfl fun hw=>⟨?_,((pool_at h q1 np).1 (q3 hw)).2⟩
      show (match hasN (n.pls.map (·.1)) k with | true=>0 | false=>g.ver k)=0
      rw [hin]
    · have hp:=h.pools k σ1 l1 h1 np
      have hD:∀ l∈l1,isD l=true:=by
        obtain ⟨e,l,h1,_⟩:=hp
        rcases h1 with ⟨v,h1,_⟩ | h1 <;> (rw [h1];intro l hl;rw [List.mem_singleton.1 hl];rfl)
      have hkn:hasN (n.pls.map (·.1)) k=false:=by
        have:=List.all_eq_true.1 hkp k (keptL_some hkl).2.1
        simp only [Bool.and_eq_true,Bool.not_eq_true'] at this
        exact this.2
      rw [h2,map_D (fun l hl=>unown_same hl) hD]
      refine hp.gw (Gw.refl _ _) ?_ (fun _=>rfl) fun b j s hb=>⟨⟨rfl,fun _=>Iff.rfl⟩,hb⟩
      show (match hasN (n.pls.map (·.1)) k with | true=>0 | false=>g.ver k)=g.ver k
      rw [hkn]
  · rcases locH k σ l hL with ⟨e,_⟩ | ⟨e,hkl,hD,_⟩
    · exact (hσ e).elim
    · refine ⟨?_,hD⟩
      subst e
      show (match Nat.beq n.id n.id with | true=>(match keptL n st k with | some (_,ls)=>ls | none=>[]) | false=>_)=l
      rw [show Nat.beq n.id n.id=true by simp,hkl]
  · rw [<-hh] at hb;cases hb
  · rcases slotH i with ⟨e1,_,_⟩ | ⟨ag',l1,l',e1,e2,e3⟩ | e | ⟨e1,e2,e3⟩
    · rw [e1] at hs;cases hs
    · rw [e1] at hs;cases hs
    · rw [e] at hs;cases hs
    · rw [e2] at hs
      cases hp:st.φ i <;> rw [hp] at hs <;> simp only [unownP] at hs <;> cases hs
  · rw [<-hh] at hdd;cases hdd
  · rcases slotH i with ⟨e1,_,e3⟩ | ⟨ag',l1,l',e1,e2,e3⟩ | e | ⟨e1,e2,e3⟩
    · rw [e1] at hkk
      have e4:k=i:=by simpa [keyP] using hkk
      rw [e4];exact e3
    · rw [e1] at hkk;cases hkk
    · rw [e] at hkk;cases hkk
    · rw [e2] at hkk
      have hkk':k∈keyP (st.φ i):=by
        cases hp:st.φ i <;> rw [hp] at hkk <;> simp only [unownP] at hkk <;> first | exact hkk | cases hkk
      have hkn:=(e3 k hkk').2
      rw [<-hh]
      show (match nthL n.locals (ls'.drop (lenTs n.slots)) k with | some l=>some (0,l) | none=>match findL plH k with | some x=>some x | none=>keptL n st k).isSome=true
      unfold Ann.knowsL at hkn
      simp only [Bool.or_eq_true] at hkn
      rcases hkn with hloc | hkp2
      · obtain ⟨l,hl'⟩:=nthL_has (q:=ls'.drop (lenTs n.slots)) hloc
        rw [hl'];rfl
      · cases nthL n.locals (ls'.drop (lenTs n.slots)) k with
        | some l=>rfl
        | none=>
          cases findL plH k with
          | some y=>rfl
          | none=>
            cases hq:keptL n st k with
            | some y=>rfl
            | none=>rw [hq] at hkp2;cases hkp2
  · rw [hO] at hk1 hk2
    rcases liveH k hk1 with rfl | ⟨i,k0,rfl,q1,q2,q3⟩
    · cases hb
    rcases liveH k' hk2 with rfl | ⟨i',k0',rfl,q1',q2',q3'⟩
    · cases hb'
    rw [q3] at hb;rw [q3'] at hb'
    have e1:=h.blkI k0 k0' b q2 q2' hb hb'
    subst e1
    have hz:k0≠.zero:=fun e=>by rw [e,h.blk0] at hb;cases hb
    rw [distinct_at hdt q1 q1' hz]
  · rw [hO] at hk1
    rcases liveH k hk1 with rfl | ⟨i,k0,rfl,q1,q2,q3⟩
    · cases hb
    rw [q3] at hb
    obtain ⟨z,hz⟩:=locS j y hL np
    exact h.blkL k0 b j z q2 hb hz np
  · rw [hO] at hk1
    rcases liveH k hk1 with rfl | ⟨i,k0,rfl,q1,q2,q3⟩
    · cases hb
    rw [q3] at hb
    exact h.blkS k0 b q2 hb
  · rw [hO] at hk1
    rcases liveH k hk1 with rfl | ⟨i,k0,rfl,q1,q2,q3⟩
    · cases hb
    rw [q3] at hb
    exact h.blkW k0 b q2 hb
  · obtain ⟨z,hz⟩:=locS j y hj np
    obtain ⟨z',hz'⟩:=locS j' y' hj' np'
    exact h.ρI j j' z z' hz hz' np np' he
  · rw [hO] at ht
    rcases liveH t ht with rfl | ⟨i,k0,rfl,q1,q2,q3⟩
    · cases hb
    rw [q3] at hb
    exact h.ows.tok k0 b q2 hb
  · obtain ⟨z,hz⟩:=locS k y hy np
    exact h.ows.loc k z hz np
  · show (match Nat.beq n.id n.id with | true=>(match keptL n st k with | some (_,ls)=>ls | none=>[]) | false=>_)=ls
    rw [show Nat.beq n.id n.id=true by simp,hkl]
end
section
variable {E : Env} {R : Type} {r : R}
theorem bind_some2 {α:Type} {x:Option α} {f:α->Option R} (h:x.bind f=some r):∃ y,x=some y /\ f y=some r:=by
 cases x with
 | none=>cases h
 | some y=>exact ⟨y,rfl,h⟩
theorem chk_bind {α:Type} {b:Bool} {x:Option α} {f:α->Option R}:(chk b x).bind f=chk b (x.bind f):=by cases b <;> rfl
theorem binI_nat {op:BinOp} {k:IntKind} {x y:Int} {C:Upd->Option R}:binI op k x y (fun p=>C (Upd.v p))=(binI op k x y (fun p=>some (Upd.v p))).bind C:=by
 cases op <;> simp [binI,chk_bind]
theorem shI_nat {op:BinOp} {k:IntKind} {x y:Int} {C:Upd->Option R}:shI op k x y (fun p=>C (Upd.v p))=(shI op k x y (fun p=>some (Upd.v p))).bind C:=by
 cases op <;> simp [shI,chk_bind]
theorem binS_nat {op:BinOp} {x y:List Int} {C:Upd->Option R}:binS op x y (fun p=>C (Upd.v p))=(binS op x y (fun p=>some (Upd.v p))).bind C:=by
 cases op <;> simp [binS,chk_bind]
theorem binF_nat {op:BinOp} {k:FloatKind} {x y:Nat} {C:Upd->Option R}:binF op k x y (fun p=>C (Upd.v p))=(binF op k x y (fun p=>some (Upd.v p))).bind C:=by
 cases op <;> simp [binF,Option.bind_assoc]
theorem binC_nat {op:BinOp} {k:FloatKind} {x y:Nat×Nat} {C:Upd->Option R}:binC op k x y (fun p=>C (Upd.v p))=(binC op k x y (fun p=>some (Upd.v p))).bind C:=by
 cases op <;> simp [binC,Option.bind_assoc]
theorem binP_nat {op:BinOp} {p q:PV} {C:Upd->Option R}:binP op p q (fun p=>C (Upd.v p))=(binP op p q (fun p=>some (Upd.v p))).bind C:=by
 unfold binP
 split
 ·split
  ·exact shI_nat
  ·exact shI_nat
  ·split
   ·exact binI_nat
   ·rfl
 ·exact binS_nat
 ·split
  ·exact binF_nat
  ·rfl
 ·split
  ·exact binC_nat
  ·rfl
 ·rfl
theorem lendC_nat {C:Upd->Option R} {u:Upd} (hv:lendC C u=some r):C u=some r /\ ∀ {R':Type} (C':Upd->Option R'),lendC C' u=C' u:=by
 unfold lendC at hv ⊢
 repeat' split at hv
 all_goals first
  | (cases hv;done)
  | (refine ⟨hv,fun {_} C'=>?_⟩;simp [*];done)
theorem appP_nat {P:Program} {o:Oper} {t u:TypeId} {st:PSt} {p q:PV} {C:Upd->Option R} (hv:appP P o t u st p q C=some r):∃ u',C u'=some r /\ ∀ {R':Type} (C':Upd->Option R'),appP P o t u st p q C'=C' u':=by
 unfold appP at hv ⊢
 repeat' split at hv
 all_goals first
  | (cases hv;done)
  | (obtain ⟨h1,h2⟩:=chk_some hv;refine ⟨_,h2,fun {_} C'=>?_⟩;simp [*,chk];done)
theorem appT_nat {P:Program} {o:Oper} {t u:TypeId} {p q:PV} {C:Upd->Option R} (hv:appT P o t u p q C=some r):∃ u',C u'=some r /\ ∀ {R':Type} (C':Upd->Option R'),appT P o t u p q C'=C' u':=by
 unfold appT at hv ⊢
 repeat' split at hv
 all_goals first
  | (cases hv;done)
  | (obtain ⟨h1,h2⟩:=chk_some hv;refine ⟨_,h2,fun {_} C'=>?_⟩;simp [*,chk];done)
theorem appV_nat {P:Program} {o:Oper} {t u:TypeId} {st:PSt} {p q:PV} {C:Upd->Option R} (hv:appV P o t u st p q C=some r):∃ u',C u'=some r /\ ∀ {R':Type} (C':Upd->Option R'),appV P o t u st p q C'=C' u':=by
 unfold appV at hv ⊢
 split at hv
 case h_2=>cases hv
 split at hv
 case h_2=>cases hv
 split at hv
 case h_2=>cases hv
 split at hv
 case h_2=>cases hv
 obtain ⟨h1,h2⟩:=chk_some hv
 refine ⟨_,h2,fun {_} C'=>?_⟩
 rw [h1]
 rfl
theorem newP_nat {st:PSt} {t:TypeId} {v:Nat} {e:Ty} {l:List e.D} {ls:List Leaf} {C:Upd->Option R}:newP st t v e l ls C=(newP st t v e l ls some).bind C:=by
 unfold newP
 repeat' split
 all_goals rfl
theorem loadP_nat {o:Oper} {t:TypeId} {T:Nat} {j:Int} {off:Nat} {st:PSt} {C:Upd->Option R}:loadP E o t T j off st C=(loadP E o t T j off st some).bind C:=by
 unfold loadP
 split
 ·rw [Option.bind_assoc]
  congr 1
  funext x
  split
  ·split <;> rfl
  ·split
   ·rename_i y _
    split
    ·have e:∀ z:Option Int,(z.bind fun n=>C (Upd.v (pint .i64 n)))=(z.bind fun n=>some (Upd.v (pint .i64 n))).bind C:=fun z=>by cases z <;> rfl
     exact e y
    ·rfl
   ·rfl
   ·rfl
 ·rfl
theorem loadA_nat {t:TypeId} {T:Nat} {j:Int} {off:Nat} {i:Int} {st:PSt} {C:Upd->Option R}:loadA E t T j off i st C=(loadA E t T j off i st some).bind C:=by
 unfold loadA
 split
 ·rw [Option.bind_assoc]
  congr 1
  funext x
  split
  ·split
   ·rw [Option.bind_assoc];rfl
   ·rfl
  ·rfl
 ·rfl
theorem lookP_nat {P:Program} {t et:TypeId} {kk:IntKind} {m n:Int} {c:Bool} {st:PSt} {C:Upd->Option R}:lookP P t et kk m n c st C=(lookP P t et kk m n c st some).bind C:=by
 unfold lookP
 split
 ·split
  ·split
   ·rw [Option.bind_assoc]
    congr 1
    funext es
    cases c <;> rfl
   ·rfl
  ·rfl
 ·rfl
theorem updP_nat {t:TypeId} {kk:IntKind} {m n:Int} {vs:List Leaf} {st:PSt} {C:Upd->Option R}:updP t kk m n vs st C=(updP t kk m n vs st some).bind C:=by
 unfold updP
 split
 ·split
  ·rw [Option.bind_assoc]
   rfl
  ·rfl
 ·rfl
theorem newM_nat {t:TypeId} {st:PSt} {C:Upd->Option R}:newM t st C=(newM t st some).bind C:=by
 unfold newM
 split <;> rfl
theorem storeP_nat {t:TypeId} {T:Nat} {j:Int} {off:Nat} {p:PV} {st:PSt} {C:Upd->Option R}:storeP E t T j off p st C=(storeP E t T j off p st some).bind C:=by
 unfold storeP
 split
 ·rw [Option.bind_assoc]
  congr 1
  funext x
  split
  ·split
   ·split
    ·rw [chk_bind];rfl
    ·rfl
   ·rfl
  ·split
   ·split
    ·split <;> rfl
    ·rfl
   ·rfl
 ·rfl
theorem storeA_nat {t:TypeId} {T:Nat} {j:Int} {off:Nat} {i:Int} {p:PV} {st:PSt} {C:Upd->Option R}:storeA E t T j off i p st C=(storeA E t T j off i p st some).bind C:=by
 unfold storeA
 split
 ·rw [Option.bind_assoc]
  congr 1
  funext x
  split
  ·split
   ·rw [chk_bind];rfl
   ·rfl
  ·rfl
 ·rfl
theorem appL_nat {P:Program} {o:Oper} {t u:TypeId} {st:PSt} {x y:Operand} {ev:Operand->PV} {C:Upd->Option R} (hv:appL P o t u st x y ev C=some r):∃ u',C u'=some r /\ ∀ {R':Type} (C':Upd->Option R'),appL P o t u st x y ev C'=C' u':=by
 unfold appL at hv ⊢
 cases hK:rowKeys ev [x,y] with
 | nil=>
  simp only [hK] at hv ⊢
  cases hf:isFv (ev x) with
  | true=>
   simp only [hf] at hv ⊢
   exact appV_nat hv
  | false=>
   simp only [hf] at hv ⊢
   exact appP_nat hv
 | cons k K=>
  simp only [hK] at hv ⊢
  obtain ⟨h0,hv⟩:=chk_some hv
  simp only [h0]
  cases hr:isRow (ev x) with
  | true=>
   simp only [hr] at hv ⊢
   cases ht:isTight (ev x) with
   | true=>
    simp only [ht] at hv ⊢
    obtain ⟨u',h1,h2⟩:=appT_nat hv
    obtain ⟨h3,h4⟩:=lendC_nat h1
    exact ⟨u',h3,fun {_} C'=>(h2 (lendC C')).trans (h4 C')⟩
   | false=>simp only [ht] at hv;cases hv
  | false=>
   simp only [hr] at hv ⊢
   obtain ⟨u',h1,h2⟩:=appP_nat hv
   obtain ⟨h3,h4⟩:=lendC_nat h1
   exact ⟨u',h3,fun {_} C'=>(h2 (lendC C')).trans (h4 C')⟩
theorem unC_nat {d:Nat} {fr:List Nat} {C:Upd->Option R} {u:Upd} (hv:unC d fr C u=some r):∃ u',C u'=some r /\ ∀ {R':Type} (C':Upd->Option R'),unC d fr C' u=C' u':=by
 unfold unC at hv ⊢
 split at hv
 ·obtain ⟨h1,h2⟩:=chk_some hv
  refine ⟨_,h2,fun {_} C'=>?_⟩
  rw [h1]
  rfl
 ·cases hv
theorem appZ_nat {P:Program} {d:Nat} {t u:TypeId} {st:PSt} {E':TypeId} {l:List Int} {q:IntKind} {k:Tok} {y:PV} {C:Upd->Option R} (hv:appZ P d t u st E' l q k y C=some r):∃ u',C u'=some r /\ ∀ {R':Type} (C':Upd->Option R'),appZ P d t u st E' l q k y C'=C' u':=by
 unfold appZ at hv ⊢
 repeat' split at hv
 all_goals first
  | (cases hv;done)
  | (obtain ⟨h1,h2⟩:=chk_some hv;refine ⟨_,h2,fun {_} C'=>?_⟩;rw [h1];rfl)
theorem appB_nat {o:Oper} {t u:TypeId} {st:PSt} {x y:Operand} {ev:Operand->PV} {C:Upd->Option R} (hv:appB E o t u st x y ev C=some r):∃ u',C u'=some r /\ ∀ {R':Type} (C':Upd->Option R'),appB E o t u st x y ev C'=C' u':=by
 unfold appB at hv ⊢
 split at hv
 ·split at hv
  ·split at hv
   ·obtain ⟨u',h1,h2⟩:=appZ_nat hv
    exact ⟨u',h1,fun {_} C'=>h2 C'⟩
   ·obtain ⟨u0,h1,h2⟩:=appL_nat hv
    obtain ⟨u',h3,h4⟩:=unC_nat h1
    exact ⟨u',h3,fun {_} C'=>(h2 (unC _ _ C')).trans (h4 C')⟩
  ·obtain ⟨u',h1,h2⟩:=appL_nat hv
   exact ⟨u',h1,fun {_} C'=>h2 C'⟩
 ·obtain ⟨u',h1,h2⟩:=appL_nat hv
  exact ⟨u',h1,fun {_} C'=>h2 C'⟩
theorem bltP_nat {o:Oper} {b:Builtin} {args:List Operand} {ts:List TypeId} {st:PSt} {ev:Operand->PV} {C:Upd->Option R} (hv:bltP E o b args ts st ev C=some r):∃ u,C u=some r /\ ∀ {R':Type} (C':Upd->Option R'),bltP E o b args ts st ev C'=C' u:=by
 unfold bltP at hv ⊢
 split at hv
 ·repeat' split at hv
  all_goals first
   | (cases hv;done)
   | (refine ⟨_,hv,fun {_} C'=>?_⟩;simp [*];done)
   | (obtain ⟨h1,h2⟩:=chk_some hv;refine ⟨_,h2,fun {_} C'=>?_⟩;simp [*,chk];done)
 ·split at hv
  ·repeat' split at hv
   all_goals first
    | (cases hv;done)
    | (refine ⟨_,hv,fun {_} C'=>?_⟩;simp [*];done)
  ·repeat' split at hv
   all_goals first
    | (cases hv;done)
    | (refine ⟨_,hv,fun {_} C'=>?_⟩;simp [*];done)
  ·obtain ⟨u,h1,h2⟩:=appB_nat hv
   exact ⟨u,h1,fun {_} C'=>h2 C'⟩
  ·repeat' split at hv
   all_goals first
    | (cases hv;done)
    | (refine ⟨_,hv,fun {_} C'=>?_⟩;simp [*];done)
  ·cases hv
 ·cases hv
theorem callP_nat {s:Sig} {f:s.Fn} {dst:Option Nat} {args:List Operand} {ats:List TypeId} {st:PSt} {ev:Operand->PV} {C:Upd->Option R} (hv:callP E s f dst args ats st ev C=some r):∃ u,C u=some r /\ ∀ {R':Type} (C':Upd->Option R'),callP E s f dst args ats st ev C'=C' u:=by
 unfold callP at hv ⊢
 split at hv
 ·split at hv
  ·split at hv
   ·obtain ⟨y,h1,h2⟩:=bind_some2 hv
    split at h2
    ·exact ⟨_,h2,fun {_} C'=>by simp [*]⟩
    ·cases h2
   ·cases hv
  ·cases hv
 ·cases hv
theorem rowC_nat {dst:Option Nat} {fr:List Nat} {C:Upd->Option R} {u:Upd} (hv:rowC E dst fr C u=some r):∃ u',C u'=some r /\ ∀ {R':Type} (C':Upd->Option R'),rowC E dst fr C' u=C' u':=by
 unfold rowC at hv ⊢
 repeat' split at hv
 all_goals first
  | (cases hv;done)
  | (refine ⟨_,hv,fun {_} C'=>?_⟩;simp [*];done)
  | (obtain ⟨h1,h2⟩:=chk_some hv;refine ⟨_,h2,fun {_} C'=>?_⟩;simp [*,chk];done)
theorem rowM_nat {dst:Option Nat} {fr:List Nat} {tt:Bool} {C:Upd->Option R} {u:Upd} (hv:rowM E dst fr tt C u=some r):∃ u',C u'=some r /\ ∀ {R':Type} (C':Upd->Option R'),rowM E dst fr tt C' u=C' u':=by
 unfold rowM at hv ⊢
 repeat' split at hv
 all_goals first
  | (cases hv;done)
  | (refine ⟨_,hv,fun {_} C'=>?_⟩;simp [*];done)
  | (obtain ⟨h1,h2⟩:=chk_some hv;refine ⟨_,h2,fun {_} C'=>?_⟩;simp [*,chk];done)
theorem callL_nat {s:Sig} {f:s.Fn} {dst:Option Nat} {args:List Operand} {ats:List TypeId} {st:PSt} {ev:Operand->PV} {C:Upd->Option R} (hv:callL E s f dst args ats st ev C=some r):∃ u,C u=some r /\ ∀ {R':Type} (C':Upd->Option R'),callL E s f dst args ats st ev C'=C' u:=by
 unfold callL at hv ⊢
 split at hv
 ·obtain ⟨u,h1,h2⟩:=callP_nat hv
  obtain ⟨u',h3,h4⟩:=rowC_nat h1
  exact ⟨u',h3,fun {_} C'=>by simp only [*]⟩
 ·obtain ⟨h0,hv⟩:=chk_some hv
  obtain ⟨u,h1,h2⟩:=callP_nat hv
  obtain ⟨h3,h4⟩:=lendC_nat h1
  obtain ⟨u',h5,h6⟩:=rowC_nat h3
  exact ⟨u',h5,fun {_} C'=>by rw [h0,h2,h4,h6];rfl⟩
theorem extP_nat {fn:Func} {ps:List PV} {C:Upd->Option R} (hv:extP fn ps C=some r):∃ u,C u=some r /\ ∀ {R':Type} (C':Upd->Option R'),extP fn ps C'=C' u:=by
 unfold extP at hv ⊢
 split at hv
 ·unfold addP at hv ⊢
  obtain ⟨h1,h2⟩:=chk_some hv
  exact ⟨_,h2,fun {_} C'=>by simp only [h1];rfl⟩
 ·cases hv
theorem pvU_nat {o:Oper} {st:PSt} {ev:Operand->PV} {C:Upd->Option R} (hv:pvU E o st ev C=some r):∃ u,C u=some r /\ ∀ {R':Type} (C':Upd->Option R'),pvU E o st ev C'=C' u:=by
  obtain ⟨dst,op,type,pos,after,guard⟩:=o
  cases op with
  | move x=>
    simp only [pvU] at hv ⊢
    repeat' split at hv
    all_goals first
      | (cases hv;done)
      | (refine ⟨_,hv,fun {_} C'=>?_⟩;simp [*];done)
      | (obtain ⟨h1,h2⟩:=chk_some hv;refine ⟨_,h2,fun {_} C'=>?_⟩;simp [*,chk];done)
      | (obtain ⟨y, h1, h2⟩ := bind_some2 hv; repeat' split at h2
         all_goals first
          | (cases h2;done)
          | (refine ⟨_,h2,fun {_} C'=>?_⟩;simp [*];done))
  | assign x=>
    simp only [pvU] at hv ⊢
    repeat' split at hv
    all_goals first
      | (cases hv;done)
      | (refine ⟨_,hv,fun {_} C'=>?_⟩;simp [*];done)
      | (obtain ⟨h1,h2⟩:=chk_some hv;refine ⟨_,h2,fun {_} C'=>?_⟩;simp [*,chk];done)
      | (obtain ⟨y, h1, h2⟩ := bind_some2 hv; repeat' split at h2
         all_goals first
          | (cases h2;done)
          | (refine ⟨_,h2,fun {_} C'=>?_⟩;simp [*];done))
  | nilCheck x=>
    simp only [pvU] at hv ⊢
    repeat' split at hv
    all_goals first
      | (cases hv;done)
      | (refine ⟨_,hv,fun {_} C'=>?_⟩;simp [*];done)
      | (obtain ⟨h1,h2⟩:=chk_some hv;refine ⟨_,h2,fun {_} C'=>?_⟩;simp [*,chk];done)
      | (obtain ⟨y, h1, h2⟩ := bind_some2 hv; repeat' split at h2
         all_goals first
          | (cases h2;done)
          | (refine ⟨_,h2,fun {_} C'=>?_⟩;simp [*];done))
  | alloc t=>
    simp only [pvU] at hv ⊢
    repeat' split at hv
    all_goals first
      | (cases hv;done)
      | (rw [newP_nat] at hv;obtain ⟨u,h1,h2⟩:=bind_some2 hv;exact ⟨u,h2,fun {_} C'=>by rw [newP_nat,h1];rfl⟩)
      | (refine ⟨_,hv,fun {_} C'=>?_⟩;simp [*];done)
      | (obtain ⟨h1,h2⟩:=chk_some hv;refine ⟨_,h2,fun {_} C'=>?_⟩;simp [*,chk];done)
      | (obtain ⟨y, h1, h2⟩ := bind_some2 hv; repeat' split at h2
         all_goals first
          | (cases h2;done)
          | (refine ⟨_,h2,fun {_} C'=>?_⟩;simp [*];done))
  | box t x=>
    simp only [pvU] at hv ⊢
    repeat' split at hv
    all_goals first
      | (cases hv;done)
      | (rw [newP_nat] at hv;obtain ⟨u,h1,h2⟩:=bind_some2 hv;exact ⟨u,h2,fun {_} C'=>by rw [newP_nat,h1];rfl⟩)
      | (refine ⟨_,hv,fun {_} C'=>?_⟩;simp [*];done)
      | (obtain ⟨h1,h2⟩:=chk_some hv;refine ⟨_,h2,fun {_} C'=>?_⟩;simp [*,chk];done)
      | (obtain ⟨y, h1, h2⟩ := bind_some2 hv; repeat' split at h2
         all_goals first
          | (cases h2;done)
          | (refine ⟨_,h2,fun {_} C'=>?_⟩;simp [*];done))
  | lookup t x i c=>
    simp only [pvU] at hv ⊢
    repeat' split at hv
    all_goals first
      | (cases hv;done)
      | (obtain ⟨u,h1,h2⟩:=bind_some2 (lookP_nat.symm.trans hv);exact ⟨u,h2,fun {_} C'=>by exact lookP_nat.trans (by rw [h1];rfl)⟩)
  | mapUpdate t x i y=>
    simp only [pvU] at hv ⊢
    repeat' split at hv
    all_goals first
      | (cases hv;done)
      | (obtain ⟨u,h1,h2⟩:=bind_some2 (updP_nat.symm.trans hv);exact ⟨u,h2,fun {_} C'=>by exact updP_nat.trans (by rw [h1];rfl)⟩)
  | makeMap t rv=>
    cases rv with
    | none=>
      simp only [pvU] at hv ⊢
      rw [newM_nat] at hv
      obtain ⟨u,h1,h2⟩:=bind_some2 hv
      exact ⟨u,h2,fun {_} C'=>by rw [newM_nat,h1];rfl⟩
    | some _=>cases hv
  | load t x=>
    simp only [pvU] at hv ⊢
    repeat' split at hv
    all_goals first
      | (cases hv;done)
      | (rw [loadP_nat] at hv;obtain ⟨u,h1,h2⟩:=bind_some2 hv;refine ⟨u,h2,fun {_} C'=>?_⟩;simp [*];rw [loadP_nat,h1];rfl)
      | (rw [loadA_nat] at hv;obtain ⟨u,h1,h2⟩:=bind_some2 hv;refine ⟨u,h2,fun {_} C'=>?_⟩;simp [*];rw [loadA_nat,h1];rfl)
      | (refine ⟨_,hv,fun {_} C'=>?_⟩;simp [*];done)
      | (obtain ⟨h1,h2⟩:=chk_some hv;refine ⟨_,h2,fun {_} C'=>?_⟩;simp [*,chk];done)
      | (obtain ⟨y, h1, h2⟩ := bind_some2 hv; repeat' split at h2
         all_goals first
          | (cases h2;done)
          | (refine ⟨_,h2,fun {_} C'=>?_⟩;simp [*];done))
  | store t x y=>
    simp only [pvU] at hv ⊢
    repeat' split at hv
    all_goals first
      | (cases hv;done)
      | (rw [storeP_nat] at hv;obtain ⟨u,h1,h2⟩:=bind_some2 hv;exact ⟨u,h2,fun {_} C'=>by rw [storeP_nat,h1];rfl⟩)
      | (rw [storeA_nat] at hv;obtain ⟨u,h1,h2⟩:=bind_some2 hv;exact ⟨u,h2,fun {_} C'=>by rw [storeA_nat,h1];rfl⟩)
      | (refine ⟨_,hv,fun {_} C'=>?_⟩;simp [*];done)
      | (obtain ⟨h1,h2⟩:=chk_some hv;refine ⟨_,h2,fun {_} C'=>?_⟩;simp [*,chk];done)
      | (obtain ⟨y, h1, h2⟩ := bind_some2 hv; repeat' split at h2
         all_goals first
          | (cases h2;done)
          | (refine ⟨_,h2,fun {_} C'=>?_⟩;simp [*];done))
  | fieldAddr s x f=>
    simp only [pvU] at hv ⊢
    repeat' split at hv
    all_goals first
      | (cases hv;done)
      | (refine ⟨_,hv,fun {_} C'=>?_⟩;simp [*];done)
      | (obtain ⟨h1,h2⟩:=chk_some hv;refine ⟨_,h2,fun {_} C'=>?_⟩;simp [*,chk];done)
      | (obtain ⟨y, h1, h2⟩ := bind_some2 hv; repeat' split at h2
         all_goals first
          | (cases h2;done)
          | (refine ⟨_,h2,fun {_} C'=>?_⟩;simp [*];done))
  | indexAddr t x i=>
    simp only [pvU] at hv ⊢
    repeat' split at hv
    all_goals first
      | (cases hv;done)
      | (obtain ⟨k',q1,q2,q3,q4⟩:=splitIx_some hv;refine ⟨_,q4,fun {_} C'=>?_⟩;subst q3;simp [*,splitIx_eq q1 q2];done)
      | (refine ⟨_,hv,fun {_} C'=>?_⟩;simp [*];done)
      | (obtain ⟨h1,h2⟩:=chk_some hv;refine ⟨_,h2,fun {_} C'=>?_⟩;simp [*,chk];done)
      | (obtain ⟨y, h1, h2⟩ := bind_some2 hv; repeat' split at h2
         all_goals first
          | (cases h2;done)
          | (refine ⟨_,h2,fun {_} C'=>?_⟩;simp [*];done))
  | index t x i=>
    simp only [pvU] at hv ⊢
    repeat' split at hv
    all_goals first
      | (cases hv;done)
      | (refine ⟨_,hv,fun {_} C'=>?_⟩;simp [*];done)
      | (obtain ⟨h1,h2⟩:=chk_some hv;refine ⟨_,h2,fun {_} C'=>?_⟩;simp [*,chk];done)
      | (obtain ⟨y, h1, h2⟩ := bind_some2 hv; repeat' split at h2
         all_goals first
          | (cases h2;done)
          | (refine ⟨_,h2,fun {_} C'=>?_⟩;simp [*];done))
  | slice t x lo hi mx=>
    simp only [pvU] at hv ⊢
    repeat' split at hv
    all_goals first
      | (cases hv;done)
      | (refine ⟨_,hv,fun {_} C'=>?_⟩;simp [*];done)
      | (obtain ⟨h1,h2⟩:=chk_some hv;refine ⟨_,h2,fun {_} C'=>?_⟩;simp [*,chk];done)
      | (obtain ⟨y, h1, h2⟩ := bind_some2 hv; repeat' split at h2
         all_goals first
          | (cases h2;done)
          | (refine ⟨_,h2,fun {_} C'=>?_⟩;simp [*];done))
  | field s x f=>
    simp only [pvU] at hv ⊢
    repeat' split at hv
    all_goals first
      | (cases hv;done)
      | (refine ⟨_,hv,fun {_} C'=>?_⟩;simp [*];done)
      | (obtain ⟨h1,h2⟩:=chk_some hv;refine ⟨_,h2,fun {_} C'=>?_⟩;simp [*,chk];done)
      | (obtain ⟨y, h1, h2⟩ := bind_some2 hv; repeat' split at h2
         all_goals first
          | (cases h2;done)
          | (refine ⟨_,h2,fun {_} C'=>?_⟩;simp [*];done))
  | extract x i=>
    simp only [pvU] at hv ⊢
    repeat' split at hv
    all_goals first
      | (cases hv;done)
      | (refine ⟨_,hv,fun {_} C'=>?_⟩;simp [*];done)
      | (obtain ⟨h1,h2⟩:=chk_some hv;refine ⟨_,h2,fun {_} C'=>?_⟩;simp [*,chk];done)
      | (obtain ⟨y, h1, h2⟩ := bind_some2 hv; repeat' split at h2
         all_goals first
          | (cases h2;done)
          | (refine ⟨_,h2,fun {_} C'=>?_⟩;simp [*];done))
  | build t parts=>
    simp only [pvU] at hv ⊢
    repeat' split at hv
    all_goals first
      | (cases hv;done)
      | (refine ⟨_,hv,fun {_} C'=>?_⟩;simp [*];done)
      | (obtain ⟨h1,h2⟩:=chk_some hv;refine ⟨_,h2,fun {_} C'=>?_⟩;simp [*,chk];done)
      | (obtain ⟨y, h1, h2⟩ := bind_some2 hv; repeat' split at h2
         all_goals first
          | (cases h2;done)
          | (refine ⟨_,h2,fun {_} C'=>?_⟩;simp [*];done))
  | buildSlice t len parts=>
    simp only [pvU] at hv ⊢
    repeat' split at hv
    all_goals first
      | (cases hv;done)
      | (obtain ⟨u', h3, h4⟩ := rowM_nat hv
         exact ⟨u',h3,fun {_} C'=>by simp [*]⟩)
  | makeSlice t n c=>
    simp only [pvU] at hv ⊢
    repeat' split at hv
    all_goals first
      | (cases hv;done)
      | (obtain ⟨h1, h2⟩ := chk_some hv
         obtain ⟨u',h3,h4⟩:=rowM_nat h2
         exact ⟨u',h3,fun {_} C'=>by simp [*,chk]⟩)
  | unOp op ty x=>
    simp only [pvU] at hv ⊢
    repeat' split at hv
    all_goals first
      | (cases hv;done)
      | (refine ⟨_,hv,fun {_} C'=>?_⟩;simp [*];done)
      | (obtain ⟨h1,h2⟩:=chk_some hv;refine ⟨_,h2,fun {_} C'=>?_⟩;simp [*,chk];done)
      | (obtain ⟨y, h1, h2⟩ := bind_some2 hv; repeat' split at h2
         all_goals first
          | (cases h2;done)
          | (refine ⟨_,h2,fun {_} C'=>?_⟩;simp [*];done))
  | convert src dst x=>
    simp only [pvU] at hv ⊢
    repeat' split at hv
    all_goals first
      | (cases hv;done)
      | (refine ⟨_,hv,fun {_} C'=>?_⟩;simp [*];done)
      | (obtain ⟨h1,h2⟩:=chk_some hv;refine ⟨_,h2,fun {_} C'=>?_⟩;simp [*,chk];done)
      | (obtain ⟨y, h1, h2⟩ := bind_some2 hv; repeat' split at h2
         all_goals first
          | (cases h2;done)
          | (refine ⟨_,h2,fun {_} C'=>?_⟩;simp [*];done))
  | binOp op ty x y uy=>
    simp only [pvU] at hv ⊢
    split at hv
    · repeat' split at hv
      all_goals first
        | (cases hv;done)
        | (refine ⟨_,hv,fun {_} C'=>?_⟩;simp [*];done)
        | (obtain ⟨h1,h2⟩:=chk_some hv;refine ⟨_,h2,fun {_} C'=>?_⟩;simp [*,chk];done)
    · repeat' split at hv
      all_goals first
        | (cases hv;done)
        | (refine ⟨_,hv,fun {_} C'=>?_⟩;simp [*];done)
        | (obtain ⟨h1,h2⟩:=chk_some hv;refine ⟨_,h2,fun {_} C'=>?_⟩;simp [*,chk];done)
    · repeat' split at hv
      all_goals first
        | (cases hv;done)
        | (refine ⟨_,hv,fun {_} C'=>?_⟩;simp [*];done)
        | (obtain ⟨h1,h2⟩:=chk_some hv;refine ⟨_,h2,fun {_} C'=>?_⟩;simp [*,chk];done)
    · repeat' split at hv
      all_goals first
        | (cases hv;done)
        | (refine ⟨_,hv,fun {_} C'=>?_⟩;simp [*];done)
    · repeat' split at hv
      all_goals first
        | (cases hv;done)
        | (refine ⟨_,hv,fun {_} C'=>?_⟩;simp [*];done)
    · rename_i a b h1 h2 h3 h6 h7
      rw [binP_nat] at hv
      obtain ⟨u,h4,h5⟩:=bind_some2 hv
      exact ⟨u,h5,fun {_} C'=>by rw [binP_nat,h4];rfl⟩
  | call c=>
    obtain ⟨callee,args,argTypes⟩:=c
    cases callee with
    | builtin b=>
      simp only [pvU] at hv ⊢
      exact bltP_nat hv
    | value f=>
      cases f with
      | func f=>
        simp only [pvU] at hv ⊢
        split at hv
        · split at hv
          · obtain ⟨u,h1,h2⟩:=callL_nat hv
            exact ⟨u,h1,fun {_} C'=>by simp [*]⟩
          · cases hv
        · obtain ⟨u,h1,h2⟩:=extP_nat hv
          exact ⟨u,h1,fun {_} C'=>by simp [*]⟩
        · cases hv
      | _=>cases hv
    | _=>cases hv
  | _=>cases hv
structure Sees (o:Oper) (st X:PSt) (ev ev':Operand->PV):Prop where
 ops:∀ x∈o.op.operands,ev' x=ev x
 loc:∀ x∈o.op.operands,∀ k∈keyP (ev x),X.L k=st.L k
 fr:∀ d,o.dst=some d->hasN X.fr d=hasN st.fr d
 tok:readsO o.op=true -> ∀ x∈o.op.operands,∀ t,t∈toksP (ev x) \/ t∈lentToks st.L (ev x)->X.O t=st.O t
 zero:X.O .zero=st.O .zero
 locR:readsP o.op=true->isLd o.op=false -> ∀ x∈o.op.operands,∀ k∈keyR (ev x),X.L k=st.L k
 new:∀ k∈newK o.op,X.L k=st.L k
 any:callsO o.op=true -> ∀ k,isPool k=true->X.L k=st.L k
 tokP:poolOp o.op st.L ev=true -> ∀ x∈o.op.operands,∀ t∈toksP (ev x),X.O t=st.O t
 locL:∀ t x T j off,o.op=.load t x->ev x=.fp T j off->X.L (pk T)=st.L (pk T) \/ (poolD X.L (pk T)=poolD st.L (pk T) /\ ∀ b v e l y,poolL st.L (pk T)=some (b,v,⟨e,l⟩)->getI l j=some y->fvAt E o.dst b (osFind (osF e y 0) off)=none)
 locA:∀ t x T j off i,o.op=.load t x->ev x=.fe T j off i->poolD X.L (pk T)=poolD st.L (pk T)
theorem buildLs_congr {P:Program} {t:TypeId} {ev ev':Operand->PV}:∀ (ps:List (Nat×Operand)) (ls:List Leaf),(∀ x∈ps.map (·.2),ev' x=ev x)->buildLs P t ev' ps ls=buildLs P t ev ps ls
 | [],_,_=>rfl
 | (i,x)::r,ls,h=>by
  unfold buildLs
  rw [h x (by simp)]
  have ih:=fun ls=>buildLs_congr (P:=P) (t:=t) r ls fun y hy=>h y (by simp at hy ⊢;exact .inr hy)
  simp only [ih]
theorem partsD_congr {P:Program} {e:TypeId} {t:Ty} {ev ev':Operand->PV}:∀ (ps:List (Nat×Operand)) (n:Nat),(∀ x∈ps.map (·.2),ev' x=ev x)->partsD P e t ev' ps n=partsD P e t ev ps n
 | [],_,_=>rfl
 | (i,x)::r,n,h=>by
  unfold partsD
  rw [h x (by simp)]
  have ih:=fun n=>partsD_congr (P:=P) (e:=e) (t:=t) r n fun y hy=>h y (by simp at hy ⊢;exact .inr hy)
  simp only [ih]
theorem boundP_congr {ev ev':Operand->PV} {x:Option Operand} {d:Int} (h:∀ y∈x.toList,ev' y=ev y):boundP ev' x d=boundP ev x d:=by
 cases x with
 | none=>rfl
 | some y=>simp [boundP,h y (by simp)]
theorem toksLs_mem {l:Leaf} {ls:List Leaf} (h:l∈ls) (hz:l.tok≠.zero):l.tok∈toksLs ls:=by
 induction ls with
 | nil=>cases h
 | cons x r ih=>
  unfold toksLs
  rcases List.mem_cons.1 h with rfl | h
  ·refine List.mem_append.2 (.inl ?_)
   unfold gone1
   split
   ·rename_i e;exact (hz e).elim
   ·simp
  ·exact List.mem_append.2 (.inr (ih h))
theorem toks_agree {O O':Tok->Bool} (h0:O' .zero=O .zero) {ls:List Leaf} (h:∀ t∈toksLs ls,O' t=O t):∀ l∈ls,O' l.tok=O l.tok:=fun l hl=>by
 by_cases hz:l.tok=.zero
 ·rw [hz,h0]
 ·exact h _ (toksLs_mem hl hz)
theorem takeAll_congr {O O':Tok->Bool}:∀ (ts:List LT) (ls:List Leaf),(∀ l∈ls,O' l.tok=O l.tok)->takeAll O' ts ls=takeAll O ts ls
 | [],[],_=>rfl
 | [],_::_,_=>rfl
 | _::_,[],_=>rfl
 | t::ts,l::ls,h=>by
  have e1:takeLeaf O' t l=takeLeaf O t l:=by
   have:=h l (by simp)
   cases t with
   | d t=>rfl
   | row e=>
    cases l with
    | own _ _ _ _=>rfl
    | d t x=>cases t <;> rfl
   | own E e=>
    cases l with
    | d t x=>rfl
    | own k E' e' x=>
     have h':O' k=O k:=this
     simp only [takeLeaf,h']
  unfold takeAll
  rw [e1,takeAll_congr ts ls fun l hl=>h l (by simp [hl])]
theorem norm_or (P:Program) (t:TypeId) (p:PV):norm P t p=p \/ ∃ ag ls,norm P t p=.w ag ls:=by
 unfold norm
 split
 ·split
  ·exact .inr ⟨_,_,rfl⟩
  ·exact .inl rfl
 ·split
  ·exact .inr ⟨_,_,rfl⟩
  ·exact .inl rfl
 ·split
  ·exact .inr ⟨_,_,rfl⟩
  ·exact .inl rfl
 ·split
  ·exact .inr ⟨_,_,rfl⟩
  ·exact .inl rfl
 ·exact .inr ⟨_,_,rfl⟩
 ·exact .inl rfl
theorem normP_toks {O O':Tok->Bool} (h0:O' .zero=O .zero) {P:Program} {ty:TypeId} {p:PV} (h:∀ t∈toksP p,O' t=O t):∀ {ag:Bool} {ls:List Leaf},norm P ty p=.w ag ls -> ∀ l∈ls,O' l.tok=O l.tok:=fun {ag ls} hn l hl=>by
 unfold norm at hn
 split at hn
 ·split at hn
  ·cases hn
   obtain rfl:=List.mem_singleton.1 hl
   exact h0
  ·cases hn
 ·split at hn
  ·cases hn
   obtain rfl:=List.mem_singleton.1 hl
   exact h0
  ·cases hn
 ·split at hn
  ·cases hn
   obtain rfl:=List.mem_singleton.1 hl
   exact h0
  ·cases hn
 ·split at hn
  ·cases hn
   obtain rfl:=List.mem_singleton.1 hl
   exact h0
  ·cases hn
 ·cases hn
  obtain rfl:=List.mem_singleton.1 hl
  exact h0
 ·subst hn
  exact toks_agree h0 h l hl
theorem rowKeys_congr {ev ev':Operand->PV}:∀ {args:List Operand},(∀ y∈args,ev' y=ev y)->rowKeys ev' args=rowKeys ev args
 | [],_=>rfl
 | x::xs,h=>by
  have e:=rowKeys_congr (args:=xs) fun y hy=>h y (List.mem_cons_of_mem _ hy)
  unfold rowKeys at e ⊢
  rw [List.flatMap_cons,List.flatMap_cons,h x (by simp),e]
theorem lendPV_congr {b:Bool} {K:List Nat} {L L':Nat->Option (Nat×List Leaf)} {p:PV} (h:∀ k∈keyP p,L' k=L k):lendPV b K L' p=lendPV b K L p:=by
 cases p with
 | row k n t=>
  show lendRow b K L' k n t=lendRow b K L k n t
  unfold lendRow
  rw [h k (by simp [keyP])]
 | _=>rfl
theorem rowOk_congr {L L':Nat->Option (Nat×List Leaf)} {p:PV} (h:∀ k∈keyP p,L' k=L k):rowOk L' p=rowOk L p:=by
 cases p with
 | row k n t=>
  have e:=h k (by simp [keyP])
  simp only [rowOk,e]
 | _=>rfl
theorem lendX_cases (K ts:List Nat) (L:Nat->Option (Nat×List Leaf)) (x:Operand) (p:PV):lendX K ts L x p=p \/ ∃ b,lendX K ts L x p=lendPV b K L p:=by
 cases x with
 | tmp t=>exact .inr ⟨_,rfl⟩
 | _=>exact .inl rfl
theorem lendX_congr {K ts:List Nat} {L L':Nat->Option (Nat×List Leaf)} {x:Operand} {p:PV} (h:∀ k∈keyP p,L' k=L k):lendX K ts L' x p=lendX K ts L x p:=by
 cases x with
 | tmp t=>exact lendPV_congr h
 | _=>rfl
theorem toks_lendPV {b:Bool} {K:List Nat} {L:Nat->Option (Nat×List Leaf)} {p:PV} {t:Tok} (h:t∈toksP (lendPV b K L p)):t∈toksP p:=by
 rcases lendPV_cases b K L p with e | ⟨e,_⟩ | ⟨k,n,_,σ,m,q,l,_,_,_,_,e⟩
 ·rw [e] at h;cases h
 ·rw [e] at h;exact h
 ·rw [e] at h
  have h:t∈([]:List Tok):=h
  cases h
theorem keys_lendPV {b:Bool} {K:List Nat} {L:Nat->Option (Nat×List Leaf)} {p:PV} {k:Nat} (h:k∈keyP (lendPV b K L p)):k∈keyP p /\ hasN K k=false:=by
 rcases lendPV_cases b K L p with e | ⟨e,e2⟩ | ⟨k',n,_,σ,m,q,l,_,_,_,_,e⟩
 ·rw [e] at h;cases h
 ·rw [e] at h;exact ⟨h,e2 k h⟩
 ·rw [e] at h;cases h
theorem appP_congr {P:Program} {o:Oper} {t u:TypeId} {st X:PSt} {p q:PV} (h4:∀ t∈toksP p,X.O t=st.O t) (h0:X.O .zero=st.O .zero) {R':Type} (C:Upd->Option R'):appP P o t u X p q C=appP P o t u st p q C:=by
 unfold appP
 split
 ·split
  ·rename_i k E' ty l i hn _
   have:=normP_toks h0 h4 hn (.own k E' ty l) (by simp)
   have e:X.O k=st.O k:=this
   rw [e]
  ·rfl
 ·rfl
theorem appV_congr {P:Program} {o:Oper} {t u:TypeId} {st X:PSt} {p q:PV} (h:∀ k∈keyR p,X.L k=st.L k) {R':Type} (C:Upd->Option R'):appV P o t u X p q C=appV P o t u st p q C:=by
 unfold appV
 split
 ·rename_i e d k j s E0 ty l v _ _
  have e1:poolL X.L k=poolL st.L k:=by unfold poolL;rw [h k (by simp [keyR])]
  rw [e1]
 ·rfl
theorem poolL_congr {L L':Nat->Option (Nat×List Leaf)} {k:Nat} (h:L' k=L k):poolL L' k=poolL L k:=by unfold poolL;rw [h]
theorem takePools_congr {L L':Nat->Option (Nat×List Leaf)} (h:∀ k,isPool k=true->L' k=L k):∀ {pls:Pls},okPls pls=true->takePools L' pls=takePools L pls
 | [],_=>rfl
 | (k,e,wr)::r,hok=>by
  simp only [okPls,Bool.and_eq_true] at hok
  unfold takePools
  rw [poolL_congr (h k hok.1.1),takePools_congr h hok.2]
theorem backPools_congr {L L':Nat->Option (Nat×List Leaf)} (h:∀ k,isPool k=true->L' k=L k):∀ {pls:Pls} (ds:List Dat),okPls pls=true->backPools L' pls ds=backPools L pls ds
 | [],[],_=>rfl
 | [],_::_,_=>rfl
 | (k,e,wr)::r,[],hok=>rfl
 | (k,e,wr)::r,x::xs,hok=>by
  simp only [okPls,Bool.and_eq_true] at hok
  unfold backPools
  rw [poolL_congr (h k hok.1.1),backPools_congr h xs hok.2]
theorem appL_congr {P:Program} {o:Oper} {t u:TypeId} {st X:PSt} {x y:Operand} {ev ev':Operand->PV} (h6:∀ z∈[x,y],∀ k∈keyR (ev z),X.L k=st.L k) (h1:∀ z∈[x,y],ev' z=ev z) (h2:∀ z∈[x,y],∀ k∈keyP (ev z),X.L k=st.L k) (h4:∀ t∈toksP (ev x),X.O t=st.O t) (h0:X.O .zero=st.O .zero) (C:Upd->Option R):appL P o t u X x y ev' C=appL P o t u st x y ev C:=by
 have ex:=h1 x (by simp)
 have ey:=h1 y (by simp)
 unfold appL
 rw [rowKeys_congr h1]
 cases rowKeys ev [x,y] with
 | nil=>
  simp only [ex,ey]
  split
  ·exact appV_congr (h6 x (by simp)) C
  ·exact appP_congr h4 h0 C
 | cons k K=>
  have l1:=lendX_congr (K:=k::K) (ts:=tmpsOf [x,y]) (x:=x) (h2 x (by simp))
  have l2:=lendX_congr (K:=k::K) (ts:=tmpsOf [x,y]) (x:=y) (h2 y (by simp))
  simp only [ex,ey,rowOk_congr (h2 x (by simp)),rowOk_congr (h2 y (by simp)),l1,l2]
  congr 1
  split
  ·rfl
  ·refine appP_congr (fun t ht=>h4 t ?_) h0 _
   rcases lendX_cases (k::K) (tmpsOf [x,y]) st.L x (ev x) with e | ⟨b,e⟩
   ·rw [e] at ht;exact ht
   ·rw [e] at ht;exact toks_lendPV ht
theorem appB_congr {o:Oper} {t u:TypeId} {st X:PSt} {x y:Operand} {ev ev':Operand->PV} (h3:∀ d,o.dst=some d->hasN X.fr d=hasN st.fr d) (h6:∀ z∈[x,y],∀ k∈keyR (ev z),X.L k=st.L k) (h1:∀ z∈[x,y],ev' z=ev z) (h2:∀ z∈[x,y],∀ k∈keyP (ev z),X.L k=st.L k) (h4:∀ t∈toksP (ev x),X.O t=st.O t) (h0:X.O .zero=st.O .zero) (C:Upd->Option R):appB E o t u X x y ev' C=appB E o t u st x y ev C:=by
 unfold appB
 cases hd:o.dst with
 | none=>exact appL_congr h6 h1 h2 h4 h0 C
 | some d=>
  dsimp only
  have hu:unC d X.fr C=unC d st.fr C:=by
   funext u
   unfold unC
   simp only [h3 d hd]
  rw [h1 x (by simp),h1 y (by simp),hu]
  split
  ·split
   ·rename_i E' l q k he
    unfold appZ
    rw [he] at h4
    have hk:X.O k=st.O k:=by
     by_cases hz:k=.zero
     ·rw [hz,h0]
     ·exact h4 k (gone1_mem hz)
    rw [hk,h3 d hd]
   ·exact appL_congr h6 h1 h2 h4 h0 _
  ·exact appL_congr h6 h1 h2 h4 h0 C
theorem bltP_congr {o:Oper} {b:Builtin} {args:List Operand} {ts:List TypeId} {st X:PSt} {ev ev':Operand->PV} (h3:∀ d,o.dst=some d->hasN X.fr d=hasN st.fr d) (h6:b=.append -> ∀ y∈args,∀ k∈keyR (ev y),X.L k=st.L k) (h1:∀ y∈args,ev' y=ev y) (h2:∀ y∈args,∀ k∈keyP (ev y),X.L k=st.L k) (h4:b=.append -> ∀ y∈args,∀ t,t∈toksP (ev y) \/ t∈lentToks st.L (ev y)->X.O t=st.O t) (h0:X.O .zero=st.O .zero) (C:Upd->Option R) :
  bltP E o b args ts X ev' C=bltP E o b args ts st ev C:=by
 unfold bltP
 split
 ·rw [h1 _ (by simp)]
 ·rename_i x y t u
  split
  ·rw [h1 x (by simp),h1 y (by simp)]
  ·rw [h1 x (by simp),h1 y (by simp)]
  ·exact appB_congr h3 (h6 rfl) h1 h2 (fun t ht=>h4 rfl x (by simp) t (.inl ht)) h0 C
  ·rw [h1 x (by simp),h1 y (by simp)]
  ·rfl
 ·rfl
theorem argsP_congr {P:Program} {st X:PSt} {ev ev':Operand->PV}:∀ (ps:List Par) (xs:List Operand) (ts:List TypeId),(∀ y∈xs,ev' y=ev y)->(∀ y∈xs,∀ k∈keyP (ev y),X.L k=st.L k)->argsP P X ev' ps xs ts=argsP P st ev ps xs ts
 | [],[],_,_,_=>rfl
 | [],_::_,_,_,_=>rfl
 | _::_,[],_,_,_=>rfl
 | p::ps,x::xs,ts,h1,h2=>by
  have e:argP X p (argN P ts (ev x))=argP st p (argN P ts (ev x)):=by
   cases p with
   | v ag l=>cases argN P ts (ev x) <;> rfl
   | m l=>
    have key:∀ q,(∀ k∈keyP q,X.L k=st.L k)->argP X (.m l) q=argP st (.m l) q:=fun q hq=>by
     cases q with
     | loc k off=>simp only [argP,hq k (by simp [keyP])]
     | _=>rfl
    refine key _ fun k hk=>h2 x (by simp) k ?_
    cases ts with
    | nil=>exact hk
    | cons t ts=>
     have hk':k∈keyP (norm P t (ev x)):=hk
     rcases norm_or P t (ev x) with e | ⟨ag,l,e⟩
     ·rw [e] at hk';exact hk'
     ·rw [e] at hk';cases hk'
  unfold argsP
  rw [h1 x (by simp),e,argsP_congr ps xs ts.tail (fun y hy=>h1 y (by simp [hy])) (fun y hy=>h2 y (by simp [hy]))]
theorem argsP_toks {P:Program} {st X:PSt} {ev:Operand->PV} (h0:X.O .zero=st.O .zero):∀ (ps:List Par) (xs:List Operand) (ts:List TypeId) (r:List Leaf×List (Nat×Nat)),(∀ y∈xs,∀ t,t∈toksP (ev y) \/ t∈lentToks st.L (ev y)->X.O t=st.O t)->argsP P st ev ps xs ts=some r -> ∀ l∈r.1,X.O l.tok=st.O l.tok
 | [],[],_,_,_,h=>by
  intro l hl
  have:([],[])=_:=Option.some.inj h
  subst this
  cases hl
 | [],_::_,_,_,_,h=>by cases h
 | _::_,[],_,_,_,h=>by cases h
 | p::ps,x::xs,ts,r,h4,h=>by
  unfold argsP at h
  split at h
  ·rename_i a m b n ha hb
   injection h with h
   subst h
   intro l hl
   rcases List.mem_append.1 hl with hl | hl
   ·cases p with
    | v ag lt=>
     have ha':argP st (.v ag lt) (argN P ts (ev x))=some (a,m):=ha
     have key:∀ q,argP st (.v ag lt) q=some (a,m) -> ∃ ag',q=.w ag' a:=fun q hq=>by
      cases q with
      | w ag' ls=>
       have hq':(match bEq ag ag'&&Nat.beq ls.length lt.length with | true=>some (ls,[]) | false=>none)=some (a,m):=hq
       split at hq'
       ·cases hq';exact ⟨ag',rfl⟩
       ·cases hq'
      | _=>cases hq
     obtain ⟨ag',e⟩:=key _ ha'
     cases ts with
     | nil=>
      have e':ev x=.w ag' a:=e
      exact toks_agree h0 (fun t ht=>h4 x (by simp) t (.inl (by rw [e'];exact ht))) l hl
     | cons t ts=>exact normP_toks h0 (fun t ht=>h4 x (by simp) t (.inl ht)) e l hl
    | m lt=>
     have key:∀ q,argP st (.m lt) q=some (a,m) -> ∃ k off σ,q=.loc k off /\ st.L k=some (σ,a):=fun q hq=>by
      cases q with
      | loc k off=>
       have hq':(match st.L k with | some (_,ls)=>(match Nat.beq off 0&&Nat.beq ls.length lt.length with | true=>some (ls,[(k,ls.length)]) | false=>none) | none=>none)=some (a,m):=hq
       split at hq'
       ·split at hq'
        ·cases hq';exact ⟨k,off,_,rfl,‹_›⟩
        ·cases hq'
       ·cases hq'
      | _=>cases hq
     obtain ⟨k,off,σ,e,hL⟩:=key _ ha
     have e':ev x=.loc k off:=by
      cases ts with
      | nil=>exact e
      | cons t ts=>
       have e2:norm P t (ev x)=.loc k off:=e
       rcases norm_or P t (ev x) with e3 | ⟨ag,l,e3⟩
       ·rw [e3] at e2;exact e2
       ·rw [e3] at e2;cases e2
     refine toks_agree h0 (fun t ht=>h4 x (by simp) t (.inr ?_)) l hl
     rw [e']
     show t∈(match st.L k with | some (_,ls)=>toksLs ls | none=>[])
     rw [hL]
     exact ht
   ·exact argsP_toks h0 ps xs ts.tail _ (fun y hy=>h4 y (by simp [hy])) hb l hl
  ·cases h
theorem callP_congr {s:Sig} {f:s.Fn} {dst:Option Nat} {args:List Operand} {ats:List TypeId} {st X:PSt} {ev ev':Operand->PV} (h6:∀ k,isPool k=true->X.L k=st.L k) (h1:∀ y∈args,ev' y=ev y) (h2:∀ y∈args,∀ k∈keyP (ev y),X.L k=st.L k) (h4:∀ y∈args,∀ t,t∈toksP (ev y) \/ t∈lentToks st.L (ev y)->X.O t=st.O t)
  (h3:∀ d,dst=some d->hasN X.fr d=hasN st.fr d) (h0:X.O .zero=st.O .zero) (C:Upd->Option R):callP E s f dst args ats X ev' C=callP E s f dst args ats st ev C:=by
 have e3:newDst dst X.fr=newDst dst st.fr:=by
  cases dst with
  | none=>rfl
  | some d=>exact h3 d rfl
 unfold callP
 rw [argsP_congr _ _ _ h1 h2,e3]
 split
 ·rename_i ls ms ha
  rw [takeAll_congr _ _ (argsP_toks h0 _ _ _ _ h4 ha)]
  cases hok:okPls s.pls with
  | true=>rw [takePools_congr h6 hok];simp only [backPools_congr h6 _ (okPls_w hok)]
  | false=>
   simp only [Bool.and_false]
   split <;> split <;> first | rfl | skip
   all_goals (rename_i h7 h8;first | rfl | (split <;> rfl) | skip)
 ·rfl
theorem rowC_congr {dst:Option Nat} {fr fr':List Nat} (h3:∀ d,dst=some d->hasN fr' d=hasN fr d) (C:Upd->Option R):rowC E dst fr' C=rowC E dst fr C:=by
 funext u
 unfold rowC
 cases dst with
 | none=>rfl
 | some d=>simp only [h3 d rfl]
theorem rowM_congr {dst:Option Nat} {fr fr':List Nat} {tt:Bool} (h3:∀ d,dst=some d->hasN fr' d=hasN fr d) (C:Upd->Option R):rowM E dst fr' tt C=rowM E dst fr tt C:=by
 funext u
 unfold rowM
 cases dst with
 | none=>rfl
 | some d=>simp only [h3 d rfl]
theorem callL_congr {s:Sig} {f:s.Fn} {dst:Option Nat} {args:List Operand} {ats:List TypeId} {st X:PSt} {ev ev':Operand->PV} (h6:∀ k,isPool k=true->X.L k=st.L k) (h1:∀ y∈args,ev' y=ev y) (h2:∀ y∈args,∀ k∈keyP (ev y),X.L k=st.L k) (h4:∀ y∈args,∀ t,t∈toksP (ev y) \/ t∈lentToks st.L (ev y)->X.O t=st.O t)
  (h3:∀ d,dst=some d->hasN X.fr d=hasN st.fr d) (h0:X.O .zero=st.O .zero) (C:Upd->Option R):callL E s f dst args ats X ev' C=callL E s f dst args ats st ev C:=by
 unfold callL
 rw [rowKeys_congr h1,rowC_congr h3]
 split
 ·exact callP_congr h6 h1 h2 h4 h3 h0 _
 ·rename_i k K _
  have e0:(args.all fun x=>rowOk X.L (ev' x))=args.all fun x=>rowOk st.L (ev x):=by
   rw [Bool.eq_iff_iff,List.all_eq_true,List.all_eq_true]
   exact ⟨fun h y hy=>by have:=h y hy;rw [h1 y hy,rowOk_congr (h2 y hy)] at this;exact this,fun h y hy=>by rw [h1 y hy,rowOk_congr (h2 y hy)];exact h y hy⟩
  rw [e0]
  congr 1
  refine callP_congr (X:=lendSt (k::K) (tmpsOf args) X) (st:=lendSt (k::K) (tmpsOf args) st) (fun j hj=>by show (match hasN (k::K) j with | true=>(match X.L j with | some _=>some (0,[]) | none=>none) | false=>X.L j)=match hasN (k::K) j with | true=>(match st.L j with | some _=>some (0,[]) | none=>none) | false=>st.L j;rw [h6 j hj]) (fun y hy=>?_) (fun y hy j hj=>?_) (fun y hy t ht=>?_) h3 h0 _
  ·show lendX (k::K) (tmpsOf args) X.L y (ev' y)=lendX (k::K) (tmpsOf args) st.L y (ev y)
   rw [h1 y hy]
   exact lendX_congr (h2 y hy)
  ·show (match hasN (k::K) j with | true=>(match X.L j with | some _=>some (0,[]) | none=>none) | false=>X.L j)=match hasN (k::K) j with | true=>(match st.L j with | some _=>some (0,[]) | none=>none) | false=>st.L j
   have hj:j∈keyP (lendX (k::K) (tmpsOf args) st.L y (ev y)):=hj
   have j1:j∈keyP (ev y):=by
    rcases lendX_cases (k::K) (tmpsOf args) st.L y (ev y) with e | ⟨b,e⟩
    ·rw [e] at hj;exact hj
    ·rw [e] at hj;exact (keys_lendPV hj).1
   rw [h2 y hy j j1]
  ·refine h4 y hy t ?_
   have ht:t∈toksP (lendX (k::K) (tmpsOf args) st.L y (ev y)) \/ t∈lentToks (lendSt (k::K) (tmpsOf args) st).L (lendX (k::K) (tmpsOf args) st.L y (ev y)):=ht
   have key:∀ p:PV,t∈lentToks (lendSt (k::K) (tmpsOf args) st).L p->t∈lentToks st.L p:=fun p ht=>by
    cases p with
    | loc j f=>
     have ht:t∈(match (match hasN (k::K) j with | true=>(match st.L j with | some _=>some ((0:Nat),([]:List Leaf)) | none=>none) | false=>st.L j) with | some (_,ls)=>toksLs ls | none=>[]):=ht
     cases hj:hasN (k::K) j with
     | true=>
      rw [hj] at ht
      cases hs:st.L j with
      | none=>rw [hs] at ht;cases ht
      | some q=>rw [hs] at ht;cases ht
     | false=>rw [hj] at ht;exact ht
    | _=>cases ht
   rcases lendX_cases (k::K) (tmpsOf args) st.L y (ev y) with e | ⟨b,e⟩
   ·rw [e] at ht
    rcases ht with ht | ht
    ·exact .inl ht
    ·exact .inr (key _ ht)
   ·rw [e] at ht
    rcases ht with ht | ht
    ·exact .inl (toks_lendPV ht)
    ·right
     rcases lendPV_cases b (k::K) st.L (ev y) with e | ⟨e,e2⟩ | ⟨k',n,_,σ,m,q,l,_,_,_,_,e⟩
     ·rw [e] at ht;cases ht
     ·rw [e] at ht;exact key _ ht
     ·rw [e] at ht;cases ht
theorem extP_congr {fn:Func} {args:List Operand} {ev ev':Operand->PV} (h1:∀ y∈args,ev' y=ev y) (C:Upd->Option R):extP fn (args.map ev') C=extP fn (args.map ev) C:=by
 rw [List.map_congr_left h1]
theorem ownNow_congr {O O':Tok->Bool} (h0:O' .zero=O .zero) {p:PV} (h:∀ t∈toksP p,O' t=O t):ownNow O' p=ownNow O p:=by
 unfold ownNow
 split
 ·rename_i k E e l
  have:O' k=O k:=toks_agree h0 (ls:=[.own k E e l]) h (.own k E e l) (by simp)
  rw [this]
 ·rfl
theorem newP_congr {st X:PSt} {t:TypeId} {v:Nat} {e:Ty} {l:List e.D} {ls:List Leaf} (h:∀ l∈ls,X.O l.tok=st.O l.tok) {R':Type} (C:Upd->Option R'):newP X t v e l ls C=newP st t v e l ls C:=by
 have key:∀ (t:Ty) (ls:List Leaf),(∀ l∈ls,X.O l.tok=st.O l.tok)->boxO X.O t ls=boxO st.O t ls /\ ∀ x ks r,boxO st.O t ls=some (x,ks,r) -> ∀ l∈r,l∈ls:=by
  intro t
  induction t with
  | pr a b iha ihb=>
   intro ls h
   obtain ⟨i1,i2⟩:=iha ls h
   unfold boxO
   rw [i1]
   cases ha:boxO st.O a ls with
   | none=>exact ⟨rfl,fun x ks r e=>by cases e⟩
   | some p=>
    obtain ⟨x,ks,r⟩:=p
    have hsub:=i2 x ks r ha
    obtain ⟨j1,j2⟩:=ihb r fun l hl=>h l (hsub l hl)
    refine ⟨by simp only [j1],fun x' ks' r' e=>?_⟩
    dsimp only at e
    cases hb:boxO st.O b r with
    | none=>rw [hb] at e;cases e
    | some q=>
     obtain ⟨y,k2,r2⟩:=q
     rw [hb] at e
     cases e
     exact fun l hl=>hsub l (j2 y k2 _ hb l hl)
  | un=>intro ls h;exact ⟨rfl,fun x ks r e=>by cases e;exact fun l hl=>hl⟩
  | os E e ih=>
   intro ls h
   cases ls with
   | nil=>exact ⟨rfl,fun x ks r e=>by cases e⟩
   | cons lf ls=>cases lf with
    | d t y=>exact ⟨rfl,fun x ks r e=>by cases e⟩
    | own k E' e' y=>
     have hk:X.O k=st.O k:=h (.own k E' e' y) (by simp)
     have d1:∀ O:Tok->Bool,boxO O (.os E e) (.own k E' e' y::ls)=(match Nat.beq E E'&&O k with
      | true=>(match castD (t:=.sl e') (.sl e) y with | some x=>some (x,[k],ls) | none=>none)
      | false=>none):=fun O=>rfl
     rw [d1,d1,hk]
     refine ⟨rfl,fun x ks r e=>?_⟩
     split at e
     ·split at e
      ·cases e;exact fun l hl=>List.mem_cons_of_mem _ hl
      ·cases e
     ·cases e
  | _=>
   intro ls h
   cases ls with
   | nil=>exact ⟨rfl,fun x ks r e=>by cases e⟩
   | cons lf ls=>
    refine ⟨rfl,fun x ks r e=>?_⟩
    simp only [boxO] at e
    split at e
    ·cases e;exact fun l hl=>List.mem_cons_of_mem _ hl
    ·cases e
 unfold newP
 rw [(key e ls h).1]
theorem pvU_congr {o:Oper} {st X:PSt} {ev ev':Operand->PV} (h:Sees (E:=E) o st X ev ev') (C:Upd->Option R):pvU E o X ev' C=pvU E o st ev C:=by
 obtain ⟨dst',op,type,pos,after,guard⟩:=o
 obtain ⟨h1,h2,h3,h4,h5,h6,h7,h8,h9,h10,h11⟩:=h
 cases op with
 | move x | assign x | nilCheck x | fieldAddr s x f | field s x f | extract x i | unOp op ty x=>
  have e1:=h1 x (by simp [Op.operands])
  simp only [pvU,e1]
 | convert src dstT x=>
  have e1:=h1 x (by simp [Op.operands])
  have e2:=ownNow_congr h5 (p:=ev x) fun t ht=>h4 rfl x (by simp [Op.operands]) t (.inl ht)
  have e3:=h2 x (by simp [Op.operands])
  have e4:∀ d,dst'=some d->hasN X.fr d=hasN st.fr d:=h3
  simp only [pvU,e1]
  generalize ev x=p at e2 e3 ⊢
  split
  ·rfl
  ·rfl
  ·split
   ·rw [e4 _ rfl]
   ·rfl
  ·rw [e3 _ (by simp [keyP])]
  ·simp only [e2]
  ·rw [e3 _ (by simp [keyP])]
  ·rfl
  ·rfl
  ·rfl
  ·rfl
 | index t x i | binOp op ty x i uy=>
  have e1:=h1 x (by simp [Op.operands])
  have e2:=h1 i (by simp [Op.operands])
  simp only [pvU,e1,e2]
 | makeSlice t x i=>
  have e1:=h1 x (by simp [Op.operands])
  have e2:=h1 i (by simp [Op.operands])
  simp only [rowM_congr h3,pvU,e1,e2]
 | alloc t=>
  have e7:=poolL_congr (h7 (pk t) (by simp [newK]))
  simp only [pvU,e7]
  split
  ·rename_i ts i d hts _ _
   split
   ·split
    ·split
     ·refine newP_congr (fun l hl=>?_) C
      have hz:∀ {ts:List LT} {l:Leaf},l∈zeroLs ts->l.tok=.zero:=by
       intro ts
       induction ts with
       | nil=>intro l hl;cases hl
       | cons t ts ih=>
        intro l hl
        cases t with
        | d t=>rcases List.mem_cons.1 hl with rfl | hl <;> first | rfl | exact ih hl
        | own E e=>rcases List.mem_cons.1 hl with rfl | hl <;> first | rfl | exact ih hl
        | row e=>rcases List.mem_cons.1 hl with rfl | hl <;> first | rfl | exact ih hl
      rw [hz hl];exact h5
     ·rfl
     ·rw [h3 _ rfl]
    ·rfl
   ·rfl
  ·rfl
 | box t x=>
  have e1:=h1 x (by simp [Op.operands])
  have e7:=poolL_congr (h7 (pk t) (by simp [newK]))
  simp only [pvU,e1,e7]
  split
  ·rename_i ag ls d hn
   split
   ·rename_i v e l hp
    refine newP_congr (normP_toks h5 (fun t' ht=>h9 ?_ x (by simp [Op.operands]) t' ht) hn) C
    show (match poolL st.L (pk t) with | some _=>true | none=>false)=true
    rw [hp]
   ·rfl
   ·rw [h3 _ rfl]
  ·rfl
 | lookup t x i c=>
  have e1:=h1 x (by simp [Op.operands])
  have e2:=h1 i (by simp [Op.operands])
  have e7:=poolL_congr (h7 (mk t) (by simp [newK]))
  simp only [pvU,e1,e2]
  split
  ·split
   ·unfold lookP
    rw [e7]
   ·rfl
  ·rfl
 | mapUpdate t x i y=>
  have e1:=h1 x (by simp [Op.operands])
  have e2:=h1 i (by simp [Op.operands])
  have e3:=h1 y (by simp [Op.operands])
  have e7:=poolL_congr (h7 (mk t) (by simp [newK]))
  simp only [pvU,e1,e2,e3]
  split
  ·split
   ·unfold updP
    rw [e7]
   ·rfl
  ·rfl
 | makeMap t rv=>
  have e7:=poolL_congr (h7 (mk t) (by simp [newK]))
  cases rv with
  | none=>
   simp only [pvU]
   unfold newM
   rw [e7]
  | some _=>rfl
 | load t x=>
  have e1:=h1 x (by simp [Op.operands])
  have e2:=h2 x (by simp [Op.operands])
  simp only [pvU,e1]
  split
  ·split
   ·rename_i k off he
    rw [e2 k (by rw [he];simp [keyP])]
   ·rename_i k off e j s he
    rw [e2 k (by rw [he];simp [keyP])]
   ·rfl
   ·rename_i T j off he
    rcases h10 t x T j off rfl he with e6 | ⟨e6,e7⟩
    ·unfold loadP
     rw [poolL_congr e6]
    ·unfold loadP
     unfold poolD at e6
     cases hq:poolL st.L (pk T) with
     | none=>
      rw [hq] at e6
      cases hq2:poolL X.L (pk T) with
      | none=>rfl
      | some z=>rw [hq2] at e6;cases e6
     | some z=>
      obtain ⟨b,v,e,l⟩:=z
      rw [hq] at e6
      cases hq2:poolL X.L (pk T) with
      | none=>rw [hq2] at e6;cases e6
      | some z2=>
       obtain ⟨b2,v2,r2⟩:=z2
       rw [hq2] at e6
       cases e6
       dsimp only
       cases hg:getI l j with
       | none=>rfl
       | some y=>
        simp only [Option.bind_some]
        rw [e7 b v e l y hq hg]
   ·rename_i T j off i he
    have e6:=h11 t x T j off i rfl he
    unfold loadA
    unfold poolD at e6
    cases hq:poolL st.L (pk T) with
    | none=>
     rw [hq] at e6
     cases hq2:poolL X.L (pk T) with
     | none=>rfl
     | some z=>rw [hq2] at e6;cases e6
    | some z=>
     obtain ⟨b,v,e,l⟩:=z
     rw [hq] at e6
     cases hq2:poolL X.L (pk T) with
     | none=>rw [hq2] at e6;cases e6
     | some z2=>
      obtain ⟨b2,v2,r2⟩:=z2
      rw [hq2] at e6
      cases e6
      rfl
   ·rfl
  ·rfl
 | store t x y=>
  have e1:=h1 x (by simp [Op.operands])
  have e3:=h1 y (by simp [Op.operands])
  have e2:=h2 x (by simp [Op.operands])
  simp only [pvU,e1,e3]
  split
  ·rename_i T j off he
   have e6:=h6 rfl rfl x (by simp [Op.operands])
   have e9:=h9 (by show isFp (ev x)=true;rw [he];rfl) y (by simp [Op.operands])
   rw [he] at e6
   unfold storeP
   rw [poolL_congr (e6 (pk T) (by simp [keyR]))]
   have er:∀ {O O':Tok->Bool} {p:PV} {v:Nat},(∀ t∈toksP p,O' t=O t)->O' .zero=O .zero->rowV O' T off v j p=rowV O T off v j p:=fun {O O' p v} h h0=>by
    unfold rowV
    split
    ·rfl
    ·rename_i k j' s' E' e' l' n v' tk
     have:O' tk=O tk:=by
      by_cases hz:tk=.zero
      ·rw [hz,h0]
      ·exact h tk (gone1_mem hz)
     rw [this]
    ·rename_i k E' e' l'
     have:O' k=O k:=toks_agree h0 (ls:=[.own k E' e' l']) h (.own k E' e' l') (by simp)
     rw [this]
    ·rfl
   have en:∀ {v:Nat},rowV X.O T off v j (norm E.P t (ev y))=rowV st.O T off v j (norm E.P t (ev y)):=fun {v}=>by
    refine er ?_ h5
    rcases norm_or E.P t (ev y) with e | ⟨ag,l,e⟩
    ·rw [e];exact e9
    ·intro t' ht
     rw [e] at ht
     have hh:=normP_toks h5 e9 e
     obtain ⟨lf,hl,hlt⟩:∃ lf∈l,lf.tok=t':=by
      have:∀ {ls:List Leaf},t'∈toksLs ls -> ∃ lf∈ls,lf.tok=t':=by
       intro ls
       induction ls with
       | nil=>intro h;cases h
       | cons z ls ih=>
        intro h
        rcases List.mem_append.1 h with h | h
        ·refine ⟨z,by simp,?_⟩
         unfold gone1 at h
         split at h
         ·cases h
         ·exact (List.mem_singleton.1 h).symm
        ·obtain ⟨lf,h1,h2⟩:=ih h
         exact ⟨lf,by simp [h1],h2⟩
      exact this ht
     rw [<-hlt]
     exact hh lf hl
   simp only [en]
  ·rename_i T j off i he
   have e6:=h6 rfl rfl x (by simp [Op.operands])
   rw [he] at e6
   unfold storeA
   rw [poolL_congr (e6 (pk T) (by simp [keyR]))]
  split
  ·rename_i k off _ _ _ he _ _
   rw [e2 k (by rw [he];simp [keyP])]
  ·rename_i k off e j s _ _ _ he _ _
   rw [e2 k (by rw [he];simp [keyP])]
  ·rfl
 | indexAddr t x i=>
  have e1:=h1 x (by simp [Op.operands])
  have e3:=h1 i (by simp [Op.operands])
  have e2:=h2 x (by simp [Op.operands])
  simp only [pvU,e1,e3]
  split
  ·rename_i e k n tt j _ he _
   rw [e2 k (by rw [he];simp [keyP])]
  ·rfl
  ·rename_i n e k off j _ he _
   rw [e2 k (by rw [he];simp [keyP])]
  ·rfl
  ·rfl
  ·rfl
 | slice t x lo hi mx=>
  have e1:=h1 x (by simp [Op.operands])
  have e2:∀ y∈lo.toList,ev' y=ev y:=fun y hy=>h1 y (by simp [Op.operands] at hy ⊢;simp [hy])
  have e3:∀ y∈hi.toList,ev' y=ev y:=fun y hy=>h1 y (by simp [Op.operands] at hy ⊢;simp [hy])
  have e4:∀ y∈mx.toList,ev' y=ev y:=fun y hy=>h1 y (by simp [Op.operands] at hy ⊢;simp [hy])
  have e5:hi.bind (fun y=>intP (ev' y))=hi.bind (fun y=>intP (ev y)):=by
   cases hi with
   | none=>rfl
   | some y=>simp only [Option.bind_some,e3 y (by simp)]
  have e6:=h6 rfl rfl x (by simp [Op.operands])
  simp only [pvU,e1,boundP_congr e2,boundP_congr e3,e5]
  split
  ·rfl
  ·split
   ·rename_i k j s E' ty l v he
    rw [he] at e6
    rw [poolL_congr (e6 k (by simp [keyR]))]
   ·rfl
  ·rw [e4 _ (by simp)]
  ·rfl
 | build t parts=>
  have e1:∀ y∈parts.toList.map (·.2),ev' y=ev y:=fun y hy=>h1 y (by simpa [Op.operands] using hy)
  simp only [pvU,buildLs_congr _ _ e1,partsD_congr _ _ e1]
 | buildSlice t len parts=>
  have e1:∀ y∈parts.toList.map (·.2),ev' y=ev y:=fun y hy=>h1 y (by simpa [Op.operands] using hy)
  simp only [rowM_congr h3,pvU,partsD_congr _ _ e1]
 | call c=>
  obtain ⟨callee,args,argTypes⟩:=c
  have e1:∀ y∈args.toList,ev' y=ev y:=fun y hy=>h1 y (by cases callee <;> simp_all [Op.operands,Call.operands])
  have e2:∀ y∈args.toList,∀ k∈keyP (ev y),X.L k=st.L k:=fun y hy=>h2 y (by cases callee <;> simp_all [Op.operands,Call.operands])
  cases callee with
  | builtin b=>
   simp only [pvU]
   exact bltP_congr h3 (fun hb y hy=>h6 (by subst hb;rfl) (by subst hb;rfl) y (by simp_all [Op.operands,Call.operands])) e1 e2 (fun hb y hy=>h4 (by subst hb;rfl) y (by simp_all [Op.operands,Call.operands])) h5 C
  | value f=>
   cases f with
   | func f=>
    simp only [pvU]
    split
    ·split
     ·exact callL_congr (h8 rfl) e1 e2 (fun y hy=>h4 rfl y (by simp_all [Op.operands,Call.operands])) h3 h5 C
     ·rfl
    ·exact extP_congr e1 C
    ·rfl
   | _=>rfl
  | _=>rfl
 | _=>rfl
end
section
variable {E : Env} {R : Type} {r : R} {ops : Array Oper} {o : Oper}
theorem stepU_nat {kn:List (Nat×Bool)} {st:PSt} {C:Rec->PSt->Option R} (hv:stepU E o kn st C=some r):∃ rc s,C rc s=some r /\ ∀ {R':Type} (C':Rec->PSt->Option R'),stepU E o kn st C'=C' rc s:=by
 unfold stepU at hv ⊢
 split at hv
 case h_2=>cases hv
 split at hv
 ·split at hv
  ·exact ⟨_,_,hv,fun {_} C'=>rfl⟩
  ·cases hv
 ·obtain ⟨u,h1,h2⟩:=pvU_nat hv
  split at h1
  ·rename_i hok
   refine ⟨_,_,h1,fun {_} C'=>?_⟩
   rw [h2,hok]
  ·cases h1
theorem skipU_nat {kn:List (Nat×Bool)} {st:PSt} {C:Rec->PSt->Option R} (hv:skipU o kn st C=some r):∃ rc s,C rc s=some r /\ ∀ {R':Type} (C':Rec->PSt->Option R'),skipU o kn st C'=C' rc s:=by
 unfold skipU at hv ⊢
 split at hv
 ·exact ⟨_,_,hv,fun {_} C'=>rfl⟩
 ·cases hv
theorem wayU_nat {want b:Bool} {kn:List (Nat×Bool)} {st:PSt} {C:Rec->PSt->Option R} (hv:wayU E o want b kn st C=some r):∃ rc s,C rc s=some r /\ ∀ {R':Type} (C':Rec->PSt->Option R'),wayU E o want b kn st C'=C' rc s:=by
 unfold wayU at hv ⊢
 split at hv
 ·exact stepU_nat hv
 ·exact skipU_nat hv
theorem guardU_nat {t:Nat} {want:Bool}:∀ {n:Nat} {kn:List (Nat×Bool)} {st:PSt} {C:Rec->PSt->Option R},guardU E o t want n kn st C=some r -> ∃ rc s,C rc s=some r /\ ∀ {R':Type} (C':Rec->PSt->Option R'),guardU E o t want n kn st C'=C' rc s
 | 0,_,_,_,hv=>by cases hv
 | n+1,kn,st,C,hv=>by
  unfold guardU at hv ⊢
  split at hv
  ·rename_i b hb
   split at hv
   ·exact wayU_nat hv
   ·split at hv
    ·split at hv
     ·exact ⟨_,_,hv,fun {_} C'=>rfl⟩
     ·cases hv
    ·cases b with
     | true=>exact wayU_nat hv
     | false=>exact wayU_nat hv
  ·exact skipU_nat hv
  ·split at hv
   ·split at hv
    ·rename_i b1 _ _
     cases b1 with
     | true=>exact guardU_nat (n:=n) hv
     | false=>exact guardU_nat (n:=n) hv
    ·cases hv
   ·cases hv
  ·cases hv
theorem pvStep_nat {st:PSt} {C:Rec->PSt->Option R} (hv:pvStep E ops o st C=some r):∃ rc s,C rc s=some r /\ ∀ {R':Type} (C':Rec->PSt->Option R'),pvStep E ops o st C'=C' rc s:=by
 unfold pvStep at hv ⊢
 split at hv
 ·exact stepU_nat hv
 ·split at hv
  ·cases hv
  ·exact guardU_nat hv
def appR (d:Option Nat) (rc:Rec) (X:PSt):PSt:=⟨putP X.φ d rc.val,putL X.L rc.loc,putO X.O rc.born rc.gone,X.kn,X.sp,outN d X.fr⟩
def Like (a b:PSt):Prop:=a.φ=b.φ /\ a.L=b.L /\ a.O=b.O /\ ∀ x,hasN a.fr x=hasN b.fr x
inductive KnOK (φ:Nat->PV):List (Nat×Bool)->Prop
 | nil:KnOK φ []
 | cons {t b kn}:KnOK φ kn->(φ t=.w false [.d .bool b] \/ ∃ t' w',φ t=.spec t' w' false [.d .bool b] /\ knows kn t'=some w')->KnOK φ ((t,b)::kn)
theorem knows_ne {kn:List (Nat×Bool)} {t x:Nat} {b:Bool} (h:knows ((t,b)::kn) x=none):t≠x /\ knows kn x=none:=by
 unfold knows at h
 split at h
 ·cases h
 ·rename_i he
  exact ⟨fun e=>by subst e;simp at he,h⟩
theorem KnOK.put {φ:Nat->PV} {kn:List (Nat×Bool)} {d:Option Nat} {p:PV} (h:KnOK φ kn) (hd:∀ x,d=some x->knows kn x=none):KnOK (putP φ d p) kn:=by
 induction h with
 | nil=>exact .nil
 | @cons t b kn h0 hj ih=>
  have hne:d≠some t:=fun e=>(knows_ne (hd t e)).1 rfl
  refine .cons (ih fun x hx=>(knows_ne (hd x hx)).2) ?_
  rw [putP_ne hne]
  exact hj
structure RecOK (d:Option Nat) (g:Option Nat) (kn:List (Nat×Bool)) (st:PSt) (rc:Rec) (s:PSt):Prop where
 like:Like s (appR d rc st)
 free:∀ x,d=some x->hasN st.sp x=false /\ knows kn x=none
 kn:KnOK st.φ kn->KnOK s.φ s.kn
 sp:∀ t,hasN st.sp t=true->hasN s.sp t=true
 spec:∀ t want ag ls,rc.val=.spec t want ag ls->g=some t /\ hasN s.sp t=true
 born:∀ t∈rc.born,∃ x j,t=.op x j /\ d=some x /\ hasN st.fr x=true
 gone:∀ t∈rc.gone,t≠.zero
 ment:∀ x∈outN d st.fr,mentP x rc.val=false /\ ∀ p∈rc.loc,mentLs x p.2=false
 bump:∀ k∈rc.bump,∀ L,poolD (putL L rc.loc) k=poolD st.L k
theorem freeD_free {φ:Nat->PV} {L:Nat->Option (Nat×List Leaf)} {O:Tok->Bool} {kn:List (Nat×Bool)} {sp fr:List Nat} {d:Option Nat} (h:freeD ⟨φ,L,O,kn,sp,fr⟩ d=true):∀ x,d=some x->hasN sp x=false /\ knows kn x=none:=fun x hx=>by
 subst hx
 simp only [freeD,Bool.and_eq_true,Bool.not_eq_true'] at h
 refine ⟨h.1,?_⟩
 have h2:=h.2
 split at h2
 ·cases h2
 ·assumption
theorem recOK_v {d g:Option Nat} {kn:List (Nat×Bool)} {st:PSt} {p:PV} (hf:∀ x,d=some x->hasN st.sp x=false /\ knows kn x=none) (hp:∀ x,mentP x p=false) (hs:∀ t want ag ls,p≠.spec t want ag ls):RecOK d g kn st (Rec.v p) ⟨putP st.φ d p,st.L,st.O,kn,st.sp,outN d st.fr⟩:=
 ⟨⟨rfl,rfl,putO_nil.symm,fun _=>rfl⟩,hf,fun h=>h.put fun x hx=>(hf x hx).2,fun t h=>h,fun t want ag ls e=>(hs _ _ _ _ e).elim,fun t h=>(by cases h),fun t h=>(by cases h),fun x _=>⟨hp x,fun p h=>(by cases h)⟩,fun k h=>(by cases h)⟩
theorem okUpd_parts {st:PSt} {d:Option Nat} {u:Upd} (h:okUpd st d u=true):(∀ t∈u.born,∃ x j,t=.op x j /\ d=some x /\ hasN st.fr x=true) /\ (∀ t∈u.gone,t≠.zero) /\ (∀ x∈outN d st.fr,mentP x u.val=false /\ ∀ p∈u.loc,mentLs x p.2=false):=by
 simp only [okUpd,Bool.and_eq_true,List.all_eq_true,Bool.not_eq_true'] at h
 obtain ⟨⟨⟨⟨h1,h2⟩,h3⟩,h4⟩,h5⟩:=h
 refine ⟨fun t ht=>?_,fun t ht e=>?_,h1⟩
 ·have:=h2 t ht
  split at this
  ·rename_i d' j x
   simp only [Bool.and_eq_true] at this
   exact ⟨d',j,rfl,by rw [Nat.eq_of_beq_eq_true this.1],by rw [Nat.eq_of_beq_eq_true this.1];exact this.2⟩
  ·cases this
 ·subst e
  have:=h3 .zero ht
  cases this
theorem pickP_bool {kn:List (Nat×Bool)} {φ:Nat->PV} {c a b:Operand} {p:PV} (h:pickP kn φ c a b=some p):∃ q,p=pbool q:=by
 unfold pickP at h
 repeat' split at h
 all_goals first
  | (cases h;done)
  | (injection h with h;exact ⟨_,h.symm⟩)
theorem binI_ns {op:BinOp} {k:IntKind} {x y:Int} {u:Upd} (h:binI op k x y (fun p=>some (Upd.v p))=some u):∀ t want ag ls,u.val≠.spec t want ag ls:=by
  unfold binI at h
  repeat' split at h
  all_goals first
    | (cases h;done)
    | (cases h;intro _ _ _ _ e;cases e;done)
    | (obtain ⟨h1,h2⟩:=chk_some h;cases h2;intro _ _ _ _ e;cases e;done)
    | (obtain ⟨y, h1, h2⟩ := bind_some2 h; repeat' split at h2
       all_goals first
        | (cases h2;done)
        | (cases h2;intro _ _ _ _ e;cases e;done))
theorem shI_ns {op:BinOp} {k:IntKind} {x y:Int} {u:Upd} (h:shI op k x y (fun p=>some (Upd.v p))=some u):∀ t want ag ls,u.val≠.spec t want ag ls:=by
  unfold shI at h
  repeat' split at h
  all_goals first
    | (cases h;done)
    | (cases h;intro _ _ _ _ e;cases e;done)
    | (obtain ⟨h1,h2⟩:=chk_some h;cases h2;intro _ _ _ _ e;cases e;done)
    | (obtain ⟨y, h1, h2⟩ := bind_some2 h; repeat' split at h2
       all_goals first
        | (cases h2;done)
        | (cases h2;intro _ _ _ _ e;cases e;done))
theorem binS_ns {op:BinOp} {x y:List Int} {u:Upd} (h:binS op x y (fun p=>some (Upd.v p))=some u):∀ t want ag ls,u.val≠.spec t want ag ls:=by
  unfold binS at h
  repeat' split at h
  all_goals first
    | (cases h;done)
    | (cases h;intro _ _ _ _ e;cases e;done)
    | (obtain ⟨h1,h2⟩:=chk_some h;cases h2;intro _ _ _ _ e;cases e;done)
    | (obtain ⟨y, h1, h2⟩ := bind_some2 h; repeat' split at h2
       all_goals first
        | (cases h2;done)
        | (cases h2;intro _ _ _ _ e;cases e;done))
theorem unP_ns {op:UnOp} {p q:PV} (h:unP op p=some q):∀ t want ag ls,q≠.spec t want ag ls:=by
  unfold unP at h
  repeat' split at h
  all_goals first
    | (cases h;done)
    | (cases h;intro _ _ _ _ e;cases e;done)
    | (obtain ⟨h1,h2⟩:=chk_some h;cases h2;intro _ _ _ _ e;cases e;done)
    | (obtain ⟨y, h1, h2⟩ := bind_some2 h; repeat' split at h2
       all_goals first
        | (cases h2;done)
        | (cases h2;intro _ _ _ _ e;cases e;done))
theorem lenP_ns {P:Program} {t:TypeId} {p q:PV} (h:lenP P t p=some q):∀ t want ag ls,q≠.spec t want ag ls:=by
  unfold lenP at h
  repeat' split at h
  all_goals first
    | (cases h;done)
    | (cases h;intro _ _ _ _ e;cases e;done)
    | (obtain ⟨h1,h2⟩:=chk_some h;cases h2;intro _ _ _ _ e;cases e;done)
    | (obtain ⟨y, h1, h2⟩ := bind_some2 h; repeat' split at h2
       all_goals first
        | (cases h2;done)
        | (cases h2;intro _ _ _ _ e;cases e;done))
theorem binF_ns {op:BinOp} {k:FloatKind} {x y:Nat} {u:Upd} (h:binF op k x y (fun p=>some (Upd.v p))=some u):∀ t want ag ls,u.val≠.spec t want ag ls:=by
 unfold binF at h
 repeat' split at h
 all_goals first
  | (cases h;done)
  | (cases h;intro _ _ _ _ e;cases e;done)
  | (obtain ⟨y,h1,h2⟩:=bind_some2 h;cases h2;intro _ _ _ _ e;cases e;done)
theorem binC_ns {op:BinOp} {k:FloatKind} {x y:Nat×Nat} {u:Upd} (h:binC op k x y (fun p=>some (Upd.v p))=some u):∀ t want ag ls,u.val≠.spec t want ag ls:=by
 unfold binC at h
 repeat' split at h
 all_goals first
  | (cases h;done)
  | (cases h;intro _ _ _ _ e;cases e;done)
  | (obtain ⟨y,h1,h2⟩:=bind_some2 h;obtain ⟨y',h3,h4⟩:=bind_some2 h2;cases h4;intro _ _ _ _ e;cases e;done)
theorem mmP_ns {f:Int->Int->Int} {p p' q:PV} (h:mmP f p p'=some q):∀ t want ag ls,q≠.spec t want ag ls:=by
  unfold mmP at h
  repeat' split at h
  all_goals first
    | (cases h;done)
    | (cases h;intro _ _ _ _ e;cases e;done)
    | (obtain ⟨h1,h2⟩:=chk_some h;cases h2;intro _ _ _ _ e;cases e;done)
    | (obtain ⟨y, h1, h2⟩ := bind_some2 h; repeat' split at h2
       all_goals first
        | (cases h2;done)
        | (cases h2;intro _ _ _ _ e;cases e;done))
theorem resP_ns {rs:List (Bool×List LT)} {ls:List Leaf}:∀ t want ag l,resP rs ls≠.spec t want ag l:=by
 intro t want ag l e
 unfold resP at e
 split at e <;> cases e
theorem appP_ns {P:Program} {o:Oper} {t u:TypeId} {st:PSt} {p q:PV} {R':Type} {C:Upd->Option R'} {r':R'} (hv:appP P o t u st p q C=some r'):∃ u',C u'=some r' /\ ∀ t want ag ls,u'.val≠.spec t want ag ls:=by
 unfold appP at hv
 repeat' split at hv
 all_goals first
  | (cases hv;done)
  | (obtain ⟨h1,h2⟩:=chk_some hv;exact ⟨_,h2,fun _ _ _ _ e=>by cases e⟩)
theorem appT_ns {P:Program} {o:Oper} {t u:TypeId} {p q:PV} {R':Type} {C:Upd->Option R'} {r':R'} (hv:appT P o t u p q C=some r'):∃ u',C u'=some r' /\ ∀ t want ag ls,u'.val≠.spec t want ag ls:=by
 unfold appT at hv
 repeat' split at hv
 all_goals first
  | (cases hv;done)
  | (obtain ⟨h1,h2⟩:=chk_some hv;exact ⟨_,h2,fun _ _ _ _ e=>by cases e⟩)
theorem appV_ns {P:Program} {o:Oper} {t u:TypeId} {st:PSt} {p q:PV} {R':Type} {C:Upd->Option R'} {r':R'} (hv:appV P o t u st p q C=some r'):∃ u',C u'=some r' /\ ∀ t want ag ls,u'.val≠.spec t want ag ls:=by
 unfold appV at hv
 split at hv
 case h_2=>cases hv
 split at hv
 case h_2=>cases hv
 split at hv
 case h_2=>cases hv
 split at hv
 case h_2=>cases hv
 obtain ⟨h1,h2⟩:=chk_some hv
 exact ⟨_,h2,fun _ _ _ _ e=>by cases e⟩
theorem newP_ns {st:PSt} {t:TypeId} {v:Nat} {e:Ty} {l:List e.D} {ls:List Leaf} {u:Upd} (hv:newP st t v e l ls some=some u):∀ t want ag ls,u.val≠.spec t want ag ls:=by
 unfold newP at hv
 repeat' split at hv
 all_goals first
  | (cases hv;done)
  | (cases hv;intro _ _ _ _ e;cases e;done)
theorem loadP_ns {o:Oper} {t:TypeId} {T:Nat} {j:Int} {off:Nat} {st:PSt} {u:Upd} (hv:loadP E o t T j off st some=some u):∀ t want ag ls,u.val≠.spec t want ag ls:=by
 unfold loadP at hv
 split at hv
 ·obtain ⟨x,_,hv⟩:=bind_some2 hv
  split at hv
  ·split at hv
   ·cases hv;intro _ _ _ _ e;cases e
   ·cases hv
  ·split at hv
   ·split at hv
    ·obtain ⟨n,_,hv⟩:=bind_some2 hv
     cases hv;intro _ _ _ _ e;cases e
    ·cases hv
   ·cases hv;intro _ _ _ _ e;cases e
   ·cases hv
 ·cases hv
theorem lookP_ns {P:Program} {t et:TypeId} {kk:IntKind} {m n:Int} {c:Bool} {st:PSt} {u:Upd} (hv:lookP P t et kk m n c st some=some u):∀ t want ag ls,u.val≠.spec t want ag ls:=by
 unfold lookP at hv
 split at hv
 case h_2=>cases hv
 split at hv
 case h_2=>cases hv
 split at hv
 case h_2=>cases hv
 obtain ⟨x,_,hv⟩:=bind_some2 hv
 cases c
 ·cases hv;intro _ _ _ _ e;cases e
 ·cases hv;intro _ _ _ _ e;cases e
theorem updP_ns {t:TypeId} {kk:IntKind} {m n:Int} {vs:List Leaf} {st:PSt} {u:Upd} (hv:updP t kk m n vs st some=some u):∀ t want ag ls,u.val≠.spec t want ag ls:=by
 unfold updP at hv
 split at hv
 case h_2=>cases hv
 split at hv
 case h_2=>cases hv
 obtain ⟨x,_,hv⟩:=bind_some2 hv
 cases hv;intro _ _ _ _ e;cases e
theorem newM_ns {t:TypeId} {st:PSt} {u:Upd} (hv:newM t st some=some u):∀ t want ag ls,u.val≠.spec t want ag ls:=by
 unfold newM at hv
 split at hv
 case h_2=>cases hv
 cases hv;intro _ _ _ _ e;cases e
theorem loadA_ns {t:TypeId} {T:Nat} {j:Int} {off:Nat} {i:Int} {st:PSt} {u:Upd} (hv:loadA E t T j off i st some=some u):∀ t want ag ls,u.val≠.spec t want ag ls:=by
 unfold loadA at hv
 split at hv
 ·obtain ⟨x,_,hv⟩:=bind_some2 hv
  split at hv
  ·split at hv
   ·obtain ⟨y,_,hv⟩:=bind_some2 hv
    cases hv;intro _ _ _ _ e;cases e
   ·cases hv
  ·cases hv
 ·cases hv
theorem storeA_ns {t:TypeId} {T:Nat} {j:Int} {off:Nat} {i:Int} {p:PV} {st:PSt} {u:Upd} (hv:storeA E t T j off i p st some=some u):∀ t want ag ls,u.val≠.spec t want ag ls:=by
 unfold storeA at hv
 split at hv
 ·obtain ⟨x,_,hv⟩:=bind_some2 hv
  split at hv
  ·split at hv
   ·obtain ⟨_,hv⟩:=chk_some hv
    cases hv;intro _ _ _ _ e;cases e
   ·cases hv
  ·cases hv
 ·cases hv
theorem storeP_ns {t:TypeId} {T:Nat} {j:Int} {off:Nat} {p:PV} {st:PSt} {u:Upd} (hv:storeP E t T j off p st some=some u):∀ t want ag ls,u.val≠.spec t want ag ls:=by
 unfold storeP at hv
 split at hv
 ·obtain ⟨x,_,hv⟩:=bind_some2 hv
  split at hv
  ·split at hv
   ·split at hv
    ·obtain ⟨_,hv⟩:=chk_some hv
     cases hv;intro _ _ _ _ e;cases e
    ·cases hv
   ·cases hv
  ·split at hv
   ·split at hv
    ·split at hv
     ·cases hv;intro _ _ _ _ e;cases e
     ·cases hv
    ·cases hv
   ·cases hv
 ·cases hv
theorem lendC_ns {u0 u:Upd} (h:∀ t want ag ls,u0.val≠.spec t want ag ls) (hv:lendC some u0=some u):∀ t want ag ls,u.val≠.spec t want ag ls:=by
 unfold lendC at hv
 repeat' split at hv
 all_goals first
  | (cases hv;done)
  | (cases hv;exact h)
theorem appL_ns {P:Program} {o:Oper} {t u:TypeId} {st:PSt} {x y:Operand} {ev:Operand->PV} {u':Upd} (hv:appL P o t u st x y ev some=some u'):∀ t want ag ls,u'.val≠.spec t want ag ls:=by
 unfold appL at hv
 split at hv
 ·split at hv
  ·obtain ⟨u0,h1,h2⟩:=appV_ns hv
   cases h1
   exact h2
  ·obtain ⟨u0,h1,h2⟩:=appP_ns hv
   cases h1
   exact h2
 ·obtain ⟨_,hv⟩:=chk_some hv
  split at hv
  ·split at hv
   ·obtain ⟨u0,h1,h2⟩:=appT_ns hv
    exact lendC_ns h2 h1
   ·cases hv
  ·obtain ⟨u0,h1,h2⟩:=appP_ns hv
   exact lendC_ns h2 h1
theorem appB_ns {o:Oper} {t u:TypeId} {st:PSt} {x y:Operand} {ev:Operand->PV} {u':Upd} (hv:appB E o t u st x y ev some=some u'):∀ t want ag ls,u'.val≠.spec t want ag ls:=by
 unfold appB at hv
 split at hv
 ·split at hv
  ·split at hv
   ·unfold appZ at hv
    repeat' split at hv
    all_goals first
     | (cases hv;done)
     | (obtain ⟨_,hv⟩:=chk_some hv;cases hv;intro _ _ _ _ e;cases e)
   ·obtain ⟨u0,h1,_⟩:=appL_nat hv
    unfold unC at h1
    split at h1
    ·obtain ⟨_,h1⟩:=chk_some h1
     cases h1;intro _ _ _ _ e;cases e
    ·cases h1
  ·exact appL_ns hv
 ·exact appL_ns hv
theorem callP_ns {s:Sig} {f:s.Fn} {dst:Option Nat} {args:List Operand} {ats:List TypeId} {st:PSt} {ev:Operand->PV} {R':Type} {C:Upd->Option R'} {r':R'} (hv:callP E s f dst args ats st ev C=some r'):∃ u,C u=some r' /\ ∀ t want ag ls,u.val≠.spec t want ag ls:=by
  unfold callP at hv
  repeat' split at hv
  all_goals first
    | (cases hv;done)
    | (obtain ⟨y, h1, h2⟩ := bind_some2 hv
       split at h2
       · exact ⟨_,h2,resP_ns⟩
       · cases h2)
theorem rowC_ns {dst:Option Nat} {fr:List Nat} {u0 u:Upd} (h:∀ t want ag ls,u0.val≠.spec t want ag ls) (hv:rowC E dst fr some u0=some u):∀ t want ag ls,u.val≠.spec t want ag ls:=by
 unfold rowC at hv
 repeat' split at hv
 all_goals first
  | (cases hv;done)
  | (cases hv;intro _ _ _ _ e;cases e;done)
  | (cases hv;exact h)
  | (obtain ⟨_,h2⟩:=chk_some hv;cases h2;intro _ _ _ _ e;cases e;done)
theorem rowM_ns {dst:Option Nat} {fr:List Nat} {tt:Bool} {u0 u:Upd} (h:∀ t want ag ls,u0.val≠.spec t want ag ls) (hv:rowM E dst fr tt some u0=some u):∀ t want ag ls,u.val≠.spec t want ag ls:=by
 unfold rowM at hv
 repeat' split at hv
 all_goals first
  | (cases hv;done)
  | (cases hv;intro _ _ _ _ e;cases e;done)
  | (cases hv;exact h)
  | (obtain ⟨_,h2⟩:=chk_some hv;cases h2;intro _ _ _ _ e;cases e;done)
theorem callL_ns {s:Sig} {f:s.Fn} {dst:Option Nat} {args:List Operand} {ats:List TypeId} {st:PSt} {ev:Operand->PV} {u:Upd} (hv:callL E s f dst args ats st ev some=some u):∀ t want ag ls,u.val≠.spec t want ag ls:=by
 unfold callL at hv
 split at hv
 ·obtain ⟨u0,h1,h2⟩:=callP_ns hv
  exact rowC_ns h2 h1
 ·obtain ⟨_,hv⟩:=chk_some hv
  obtain ⟨u0,h1,h2⟩:=callP_ns hv
  unfold lendC at h1
  repeat' split at h1
  all_goals first
   | (cases h1;done)
   | exact rowC_ns h2 h1
theorem pvU_ns {st:PSt} {ev:Operand->PV} {u:Upd} (hv:pvU E o st ev some=some u):∀ t want ag ls,u.val≠.spec t want ag ls:=by
  obtain ⟨dst,op,type,pos,after,guard⟩:=o
  cases op with
  | move x | assign x=>
    simp only [pvU] at hv
    split at hv
    · cases hv
    · cases hv
    · rename_i h1 h2
      injection hv with hv
      subst hv
      intro t want ag ls e
      exact h2 t want ag ls e
  | unOp op ty x=>
    simp only [pvU] at hv
    split at hv
    · rename_i p hp
      injection hv with hv
      subst hv
      exact unP_ns hp
    · cases hv
  | binOp op ty x y uy=>
    simp only [pvU] at hv
    split at hv
    · repeat' split at hv
      all_goals first
        | (cases hv;done)
        | (cases hv;intro _ _ _ _ e;cases e;done)
        | (obtain ⟨h1,h2⟩:=chk_some hv;cases h2;intro _ _ _ _ e;cases e;done)
        | (obtain ⟨y, h1, h2⟩ := bind_some2 hv; repeat' split at h2
           all_goals first
            | (cases h2;done)
            | (cases h2;intro _ _ _ _ e;cases e;done))
    · repeat' split at hv
      all_goals first
        | (cases hv;done)
        | (cases hv;intro _ _ _ _ e;cases e;done)
        | (obtain ⟨h1,h2⟩:=chk_some hv;cases h2;intro _ _ _ _ e;cases e;done)
        | (obtain ⟨y, h1, h2⟩ := bind_some2 hv; repeat' split at h2
           all_goals first
            | (cases h2;done)
            | (cases h2;intro _ _ _ _ e;cases e;done))
    · repeat' split at hv
      all_goals first
        | (cases hv;done)
        | (cases hv;intro _ _ _ _ e;cases e;done)
        | (obtain ⟨h1,h2⟩:=chk_some hv;cases h2;intro _ _ _ _ e;cases e;done)
        | (obtain ⟨y, h1, h2⟩ := bind_some2 hv; repeat' split at h2
           all_goals first
            | (cases h2;done)
            | (cases h2;intro _ _ _ _ e;cases e;done))
    · repeat' split at hv
      all_goals first
        | (cases hv;done)
        | (cases hv;intro _ _ _ _ e;cases e;done)
    · repeat' split at hv
      all_goals first
        | (cases hv;done)
        | (cases hv;intro _ _ _ _ e;cases e;done)
    · unfold binP at hv
      split at hv
      · split at hv
        · exact shI_ns hv
        · exact shI_ns hv
        · split at hv
          · exact binI_ns hv
          · cases hv
      · exact binS_ns hv
      · split at hv
        · exact binF_ns hv
        · cases hv
      · split at hv
        · exact binC_ns hv
        · cases hv
      · cases hv
  | call c=>
    obtain ⟨callee,args,argTypes⟩:=c
    cases callee with
    | builtin b=>
      simp only [pvU] at hv
      unfold bltP at hv
      split at hv
      · repeat' split at hv
        all_goals first
          | (cases hv;done)
          | (cases hv;exact lenP_ns ‹_›)
          | (cases hv;intro _ _ _ _ e;cases e;done)
      · split at hv
        · repeat' split at hv
          all_goals first
            | (cases hv;done)
            | (cases hv;exact mmP_ns ‹_›)
        · repeat' split at hv
          all_goals first
            | (cases hv;done)
            | (cases hv;exact mmP_ns ‹_›)
        · exact appB_ns hv
        · repeat' split at hv
          all_goals first
            | (cases hv;done)
            | (cases hv;intro _ _ _ _ e;cases e;done)
        · cases hv
      · cases hv
    | value f=>
      cases f with
      | func f=>
        simp only [pvU] at hv
        split at hv
        · split at hv
          · exact callL_ns hv
          · cases hv
        · unfold extP at hv
          split at hv
          · unfold addP at hv
            obtain ⟨h1,h2⟩:=chk_some hv
            cases h2
            intro _ _ _ _ e;cases e
          · cases hv
        · cases hv
      | _=>cases hv
    | _=>cases hv
  | makeMap t rv=>
    cases rv with
    | none=>
      simp only [pvU] at hv
      exact newM_ns hv
    | some _=>cases hv
  | lookup t x i c=>
    simp only [pvU] at hv
    repeat' split at hv
    all_goals first
      | (cases hv;done)
      | exact lookP_ns hv
  | mapUpdate t x i y=>
    simp only [pvU] at hv
    repeat' split at hv
    all_goals first
      | (cases hv;done)
      | exact updP_ns hv
  | makeSlice t n c=>
    simp only [pvU] at hv
    repeat' split at hv
    all_goals first
      | (cases hv;done)
      | (obtain ⟨_, h2⟩ := chk_some hv
         exact rowM_ns (fun _ _ _ _ e=>by cases e) h2)
  | buildSlice t n c=>
    simp only [pvU] at hv
    repeat' split at hv
    all_goals first
      | (cases hv;done)
      | exact rowM_ns (fun _ _ _ _ e=>by cases e) hv
  | _=>
    simp only [pvU] at hv
    repeat' split at hv
    all_goals first
      | (cases hv;done)
      | exact newP_ns hv
      | exact loadP_ns hv
      | exact storeP_ns hv
      | exact loadA_ns hv
      | exact storeA_ns hv
      | (cases hv;intro _ _ _ _ e;cases e;done)
      | (obtain ⟨h1,h2⟩:=chk_some hv;cases h2;intro _ _ _ _ e;cases e;done)
      | (obtain ⟨k',q1,q2,q3,q4⟩:=splitIx_some hv;cases q4;intro _ _ _ _ e;cases e;done)
      | (obtain ⟨y, h1, h2⟩ := bind_some2 hv; repeat' split at h2
         all_goals first
          | (cases h2;done)
          | (cases h2;intro _ _ _ _ e;cases e;done))
theorem pvU_bump {st:PSt} {ev:Operand->PV} {u:Upd} (hv:pvU E o st ev some=some u):∀ k∈bumpK o.op ev,∀ L,poolD (putL L u.loc) k=poolD st.L k:=by
 intro k hk L
 obtain ⟨dst,op,type,pos,after,guard⟩:=o
 unfold bumpK at hk
 dsimp only at hk
 split at hk
 case h_2=>cases hk
 rename_i args ats
 split at hk
 case h_2=>cases hk
 rename_i x r hargs
 have hfv:∃ j s E0 e l v,ev x=.fv k j s E0 e l v:=by
  generalize ev x=p at hk
  cases p <;> simp [fvKs] at hk
  subst hk
  exact ⟨_,_,_,_,_,_,rfl⟩
 obtain ⟨j,s,E0,e,l,v,hx⟩:=hfv
 simp only [pvU] at hv
 unfold bltP at hv
 rw [hargs] at hv
 split at hv
 ·cases hv
 ·rename_i x' y t u' e1 e2
  cases e1
  dsimp only at hv
  have hun:∀ {d:Nat} {fr:List Nat} {u:Upd},appL E.P ⟨dst,.call { callee:=.builtin .append,args:=args,argTypes:=ats },type,pos,after,guard⟩ t u' st x y ev (unC d fr some)=some u->False:=fun {d fr u} hv=>by
   have hn:norm E.P t (ev x)=ev x:=by rw [hx];rfl
   have hP:∀ {st':PSt} {q:PV} {R':Type} {C:Upd->Option R'} {r':R'},appP E.P ⟨dst,.call { callee:=.builtin .append,args:=args,argTypes:=ats },type,pos,after,guard⟩ t u' st' (ev x) q C=some r'->False:=fun {st' q R' C r'} hv=>by
    unfold appP at hv
    rw [hn,hx] at hv
    split at hv
    ·split at hv
     ·contradiction
     ·cases hv
    ·cases hv
   unfold appL at hv
   split at hv
   ·have hf:isFv (ev x)=true:=by rw [hx];rfl
    rw [hf] at hv
    dsimp only at hv
    unfold appV at hv
    rw [hx] at hv
    repeat' split at hv
    all_goals first
     | (cases hv;done)
     | (obtain ⟨_,hv⟩:=chk_some hv;cases hv)
   ·obtain ⟨_,hv⟩:=chk_some hv
    have hf:isRow (ev x)=false:=by rw [hx];rfl
    rw [hf] at hv
    dsimp only at hv
    have hl:∀ K ts,lendX K ts st.L x (ev x)=ev x:=fun K ts=>by
     unfold lendX
     split
     ·rw [hx];rfl
     ·rfl
    rw [hl] at hv
    exact hP hv
  have hv:appL E.P ⟨dst,.call { callee:=.builtin .append,args:=args,argTypes:=ats },type,pos,after,guard⟩ t u' st x y ev some=some u:=by
   unfold appB at hv
   split at hv
   ·split at hv
    ·split at hv
     ·rename_i he
      rw [hx] at he;cases he
     ·exact (hun hv).elim
    ·exact hv
   ·exact hv
  unfold appL at hv
  have happV:∀ {q:PV} {u:Upd},appV E.P ⟨dst,.call { callee:=.builtin .append,args:=args,argTypes:=ats },type,pos,after,guard⟩ t u' st (ev x) q some=some u->poolD (putL L u.loc) k=poolD st.L k:=fun {q u} hv=>by
   unfold appV at hv
   rw [hx] at hv
   split at hv
   case h_2=>cases hv
   rename_i e' d k' j' s' E' ty l' v' h1 h2 h3
   cases h3
   split at hv
   case h_2=>cases hv
   rename_i i v'' pe pl h4 h5
   split at hv
   case h_2=>cases hv
   split at hv
   case h_2=>cases hv
   obtain ⟨_,hv⟩:=chk_some hv
   cases hv
   unfold poolD
   rw [h5]
   have:poolL (putL L [(k,[.d (.arr (v+1) pe) pl])]) k=some (true,v+1,⟨pe,pl⟩):=by
    unfold poolL putL
    simp
   rw [this]
  have happP:∀ {st':PSt} {q:PV} {R':Type} {C:Upd->Option R'} {r':R'},appP E.P ⟨dst,.call { callee:=.builtin .append,args:=args,argTypes:=ats },type,pos,after,guard⟩ t u' st' (ev x) q C=some r'->False:=fun {st' q R' C r'} hv=>by
   unfold appP at hv
   have hn:norm E.P t (ev x)=ev x:=by rw [hx];rfl
   rw [hn,hx] at hv
   split at hv
   ·split at hv
    ·contradiction
    ·cases hv
   ·cases hv
  split at hv
  ·rw [hx] at hv
   have hf:isFv (.fv k j s E0 e l v)=true:=rfl
   rw [hf] at hv
   rw [<-hx] at hv
   exact happV hv
  ·obtain ⟨_,hv⟩:=chk_some hv
   rw [hx] at hv
   have hf:isRow (.fv k j s E0 e l v)=false:=rfl
   rw [hf] at hv
   dsimp only at hv
   have hl:∀ K ts,lendX K ts st.L x (ev x)=ev x:=fun K ts=>by
    unfold lendX
    split
    ·rw [hx];rfl
    ·rfl
   rw [<-hx,hl] at hv
   exact (happP hv).elim
 ·cases hv
theorem bump_total {ev:Operand->PV} (h:totalO ev o.op=true) (ev':Operand->PV):bumpK o.op ev'=[]:=by
 obtain ⟨dst,op,type,pos,after,guard⟩:=o
 cases op with
 | call c=>
  obtain ⟨callee,args,argTypes⟩:=c
  cases callee with
  | builtin b=>
   cases b with
   | append=>cases h
   | _=>rfl
  | _=>rfl
 | _=>rfl
theorem stepU_ok {g:Option Nat} {kn:List (Nat×Bool)} {st:PSt} {rc:Rec} {s:PSt} (hv:stepU E o kn st (fun rc s=>some (rc,s))=some (rc,s)):RecOK o.dst g kn st rc s:=by
 unfold stepU at hv
 split at hv
 case h_2=>cases hv
 rename_i hf
 have hfr:=freeD_free hf
 split at hv
 ·split at hv
  ·rename_i p hp
   injection hv with hv
   obtain ⟨rfl,rfl⟩:=Prod.mk.inj hv
   obtain ⟨q,rfl⟩:=pickP_bool hp
   exact recOK_v hfr (fun _=>rfl) (fun _ _ _ _ e=>by cases e)
  ·cases hv
 ·obtain ⟨u,h1,h2⟩:=pvU_nat hv
  split at h1
  ·rename_i hok
   injection h1 with h1
   obtain ⟨rfl,rfl⟩:=Prod.mk.inj h1
   obtain ⟨o1,o2,o3⟩:=okUpd_parts hok
   exact ⟨⟨rfl,rfl,rfl,fun _=>rfl⟩,hfr,fun h=>h.put fun x hx=>(hfr x hx).2,fun t h=>h,fun t want ag ls e=>(pvU_ns (h2 some) t want ag ls e).elim,o1,o2,o3,fun k hk L=>pvU_bump (h2 some) k hk L⟩
  ·cases h1
theorem skipU_ok {g:Option Nat} {kn:List (Nat×Bool)} {st:PSt} {rc:Rec} {s:PSt} (hv:skipU o kn st (fun rc s=>some (rc,s))=some (rc,s)):RecOK o.dst g kn st rc s:=by
 unfold skipU at hv
 split at hv
 case h_2=>cases hv
 rename_i hf
 injection hv with hv
 obtain ⟨rfl,rfl⟩:=Prod.mk.inj hv
 exact recOK_v (freeD_free hf) (fun _=>rfl) (fun _ _ _ _ e=>by cases e)
theorem wayU_ok {g:Option Nat} {want b:Bool} {kn:List (Nat×Bool)} {st:PSt} {rc:Rec} {s:PSt} (hv:wayU E o want b kn st (fun rc s=>some (rc,s))=some (rc,s)):RecOK o.dst g kn st rc s:=by
 unfold wayU at hv
 split at hv
 ·exact stepU_ok hv
 ·exact skipU_ok hv
theorem RecOK.less {d g:Option Nat} {t:Nat} {b:Bool} {kn:List (Nat×Bool)} {st:PSt} {rc:Rec} {s:PSt} (h:RecOK d g ((t,b)::kn) st rc s) (hj:st.φ t=.w false [.d .bool b] \/ ∃ t' w',st.φ t=.spec t' w' false [.d .bool b] /\ knows kn t'=some w'):RecOK d g kn st rc s:=
 ⟨h.like,fun x hx=>⟨(h.free x hx).1,(knows_ne (h.free x hx).2).2⟩,fun hk=>h.kn (.cons hk hj),h.sp,h.spec,h.born,h.gone,h.ment,h.bump⟩
theorem evK_bool {kn:List (Nat×Bool)} {φ:Nat->PV} {t:Nat} {b:Bool} (h:evK kn φ (.tmp t)=.w false [.d .bool b]) (hk:knows kn t=none):φ t=.w false [.d .bool b] \/ ∃ t' w',φ t=.spec t' w' false [.d .bool b] /\ knows kn t'=some w':=by
 unfold evK at h
 have hev:evS φ (.tmp t)=φ t:=rfl
 rw [hev] at h
 split at h
 ·rename_i j want ag ls hs
  split at h
  ·rename_i b' hb
   split at h
   ·rename_i he
    have h:=knB_none h hk
    cases h
    exact .inr ⟨j,want,hs,by rw [hb,bEq_iff.1 he]⟩
   ·cases h
  ·cases h
 ·exact .inl (knB_none h hk)
theorem guardU_ok {t:Nat} {want:Bool}:∀ {n:Nat} {kn:List (Nat×Bool)} {st:PSt} {rc:Rec} {s:PSt},guardU E o t want n kn st (fun rc s=>some (rc,s))=some (rc,s)->RecOK o.dst (some t) kn st rc s
 | 0,_,_,_,_,hv=>by cases hv
 | n+1,kn,st,rc,s,hv=>by
  unfold guardU at hv
  split at hv
  ·rename_i b hb
   split at hv
   ·exact wayU_ok hv
   ·rename_i hk
    split at hv
    ·rename_i ag ls hs
     split at hv
     ·rename_i hfk
      simp only [Bool.and_eq_true] at hfk
      obtain ⟨o1,o2,o3⟩:=okUpd_parts hfk.2
      have hfr:=freeD_free hfk.1
      injection hv with hv
      obtain ⟨rfl,rfl⟩:=Prod.mk.inj hv
      refine ⟨⟨rfl,rfl,putO_nil.symm,fun _=>rfl⟩,fun x hx=>⟨Bool.eq_false_iff.2 fun e=>?_,(hfr x hx).2⟩,fun h=>h.put fun x hx=>(hfr x hx).2,fun t h=>hasN_iff.2 (List.mem_cons_of_mem _ (hasN_iff.1 h)),fun t' want' ag' ls' e=>?_,fun t h=>(by cases h),fun t h=>(by cases h),fun x hx=>⟨(o3 x hx).1,fun p h=>(by cases h)⟩,fun k h=>(by
       have hb:k∈bumpK o.op (evK ((t,want)::kn) st.φ):=h
       unfold specU at hs
       split at hs
       ·rename_i ht
        rw [bump_total ht] at hb
        cases hb
       ·cases hs)⟩
      ·have:=(hfr x hx).1
       rw [hasN_iff.2 (List.mem_cons_of_mem _ (hasN_iff.1 e))] at this
       cases this
      ·have e':PV.spec t want ag ls=.spec t' want' ag' ls':=e
       cases e'
       exact ⟨rfl,hasN_iff.2 (by simp)⟩
     ·cases hv
    ·cases b with
     | true=>exact (wayU_ok (g:=some t) (kn:=(t,true)::kn) hv).less (evK_bool hb hk)
     | false=>exact (wayU_ok (g:=some t) (kn:=(t,false)::kn) hv).less (evK_bool hb hk)
  ·exact skipU_ok hv
  ·split at hv
   ·rename_i t1 _ _ _ _
    split at hv
    ·rename_i b1 hb1 hk1
     cases b1 with
     | true=>exact (guardU_ok (n:=n) (kn:=(t1,true)::kn) hv).less (evK_bool hb1 hk1)
     | false=>exact (guardU_ok (n:=n) (kn:=(t1,false)::kn) hv).less (evK_bool hb1 hk1)
    ·cases hv
   ·cases hv
  ·cases hv
def gslot (ops:Array Oper) (o:Oper):Option Nat:=match o.guard with
 | none=>none
 | some (j,_)=>(ops[j]?).bind (·.dst)
theorem pvStep_ok {st:PSt} {rc:Rec} {s:PSt} (hv:pvStep E ops o st (fun rc s=>some (rc,s))=some (rc,s)):RecOK o.dst (gslot ops o) st.kn st rc s:=by
 unfold pvStep at hv
 unfold gslot
 split at hv
 ·exact stepU_ok hv
 ·rename_i j want hg
  split at hv
  ·cases hv
  ·rename_i t ht
   simp only [hg,ht]
   exact guardU_ok hv
end
section
variable {E : Env} {R : Type} {r : R} {ops : Array Oper} {o : Oper} {A : Nat -> Prop}
structure Foot (d:Option Nat) (rc:Rec) (st X:PSt):Prop where
 L:∀ k,k∈rc.keysR \/ k∈rc.keysW \/ (rc.anyP=true /\ isPool k=true)->X.L k=st.L k
 D:∀ k∈rc.keysD,poolD X.L k=poolD st.L k
 O:∀ t∈rc.toksR,X.O t=st.O t
 zero:X.O .zero=st.O .zero
 fr:∀ x,d=some x->hasN X.fr x=hasN st.fr x
 free:∀ x,d=some x->hasN X.sp x=false
 ment:∀ x∈outN d X.fr,mentP x rc.val=false /\ ∀ p∈rc.loc,mentLs x p.2=false
structure Alike (A:Nat->Prop) (st X:PSt) (kn kn':List (Nat×Bool)):Prop where
 φ:∀ t,A t->X.φ t=st.φ t
 kn:∀ t,A t->knows kn' t=knows kn t
 cl:∀ t,A t -> ∀ j w ag ls,st.φ t=.spec j w ag ls->A j
theorem Alike.cons {st X:PSt} {kn kn':List (Nat×Bool)} (h:Alike A st X kn kn') (t:Nat) (b:Bool):Alike A st X ((t,b)::kn) ((t,b)::kn'):=
 ⟨h.φ,fun x hx=>by
  unfold knows
  split
  ·rfl
  ·exact h.kn x hx,h.cl⟩
theorem Alike.ev {st X:PSt} {kn kn':List (Nat×Bool)} (h:Alike A st X kn kn') {x:Operand} (hx:∀ t,x=.tmp t->A t):evK kn' X.φ x=evK kn st.φ x:=by
 unfold evK
 have e:evS X.φ x=evS st.φ x:=by
  cases x with
  | tmp t=>exact h.φ t (hx t rfl)
  | _=>rfl
 rw [e]
 have hb:∀ p,knB kn' x p=knB kn x p:=fun p=>knB_congr fun t e=>h.kn t (hx t e)
 split
 ·rename_i j want ag ls hs
  have hj:A j:=by
   cases x with
   | tmp t=>exact h.cl t (hx t rfl) j want ag ls hs
   | const c=>
    exfalso
    have hs':constPV c=.spec j want ag ls:=hs
    unfold constPV at hs'
    repeat' split at hs'
    all_goals cases hs'
   | _=>cases hs
  rw [h.kn j hj,hb]
 ·exact hb _
theorem putL_congr {L L':Nat->Option (Nat×List Leaf)} {k:Nat} (h:L' k=L k):∀ (l:List (Nat×List Leaf)),putL L' l k=putL L l k
 | []=>h
 | (j,ls)::r=>by
  unfold putL
  split
  ·rfl
  ·exact putL_congr h r
theorem okUpd_at {st X:PSt} {d:Option Nat} {u:Upd} (h:okUpd st d u=true) (h1:∀ k∈keyP u.val,X.L k=st.L k) (h2:∀ p∈u.loc,X.L p.1=st.L p.1) (h3:∀ x,d=some x->hasN X.fr x=hasN st.fr x) (h4:∀ x∈outN d X.fr,mentP x u.val=false /\ ∀ p∈u.loc,mentLs x p.2=false):okUpd X d u=true:=by
 simp only [okUpd,Bool.and_eq_true,List.all_eq_true,Bool.not_eq_true'] at h ⊢
 obtain ⟨⟨⟨⟨_,g2⟩,g3⟩,g4⟩,g5⟩:=h
 refine ⟨⟨⟨⟨h4,fun t ht=>?_⟩,g3⟩,fun k hk=>?_⟩,fun p hp=>?_⟩
 ·have:=g2 t ht
  split
  ·rename_i d' j x
   dsimp only at this
   rw [h3 _ rfl];exact this
  ·rename_i hn
   split at this
   ·exact (hn _ _ _ rfl rfl).elim
   ·cases this
 ·have:=g4 k hk
  rw [putL_congr (h1 k hk)];exact this
 ·have:=g5 p hp
  rw [h2 p hp]
  split
  ·rfl
  ·rename_i hn
   rw [hn] at this
   dsimp only at this
   cases d with
   | none=>cases this
   | some x=>dsimp only at this ⊢;rw [h3 x rfl];exact this
theorem freeD_at {φ:Nat->PV} {L:Nat->Option (Nat×List Leaf)} {O:Tok->Bool} {kn:List (Nat×Bool)} {sp fr:List Nat} {d:Option Nat} (h:∀ x,d=some x->hasN sp x=false /\ knows kn x=none):freeD ⟨φ,L,O,kn,sp,fr⟩ d=true:=by
 cases d with
 | none=>rfl
 | some x=>simp [freeD,(h x rfl).1,(h x rfl).2]
theorem flatMap_same {α β:Type} {f g:α->List β}:∀ (l:List α),(∀ x∈l,f x=g x)->l.flatMap f=l.flatMap g
 | [],_=>rfl
 | x::r,h=>by rw [List.flatMap_cons,List.flatMap_cons,h x (by simp),flatMap_same r fun y hy=>h y (by simp [hy])]
theorem recU_at {st X:PSt} {kn kn':List (Nat×Bool)} {u:Upd} (he:∀ x∈o.op.operands,evK kn' X.φ x=evK kn st.φ x) (hl:∀ x∈o.op.operands,∀ k∈keyP (evK kn st.φ x),X.L k=st.L k) (hn:∀ k∈newK o.op,X.L k=st.L k):recU o X kn' u=recU o st kn u:=by
 have e1:o.op.operands.toList.map (evK kn' X.φ)=o.op.operands.toList.map (evK kn st.φ):=List.map_congr_left fun x hx=>he x (by simpa using hx)
 have e2:(o.op.operands.toList.map (evK kn st.φ)).flatMap (lentToks X.L)=(o.op.operands.toList.map (evK kn st.φ)).flatMap (lentToks st.L):=by
  rw [List.flatMap_map,List.flatMap_map]
  refine flatMap_same _ fun x hx=>?_
  have hk:=hl x (by simpa using hx)
  generalize evK kn st.φ x=p at hk
  cases p with
  | loc k off=>simp only [lentToks,hk k (by simp [keyP])]
  | _=>rfl
 have e3:poolOp o.op X.L (evK kn' X.φ)=poolOp o.op st.L (evK kn st.φ):=by
  unfold poolOp
  split
  ·rename_i hop
   rw [he _ (by rw [hop];simp [Op.operands])]
  ·rename_i t x hop
   rw [poolL_congr (hn (pk t) (by rw [hop];simp [newK]))]
  ·rfl
 have e4:bumpK o.op (evK kn' X.φ)=bumpK o.op (evK kn st.φ):=by
  unfold bumpK
  split
  ·rename_i args ats hop
   split
   ·rename_i x r hx
    rw [he x (by rw [hop];simp [Op.operands,Call.operands];rw [<-Array.mem_toList_iff,hx];simp)]
   ·rfl
  ·rfl
 unfold recU
 dsimp only
 rw [e1,e2,e3,e4]
theorem keyP_R {p:PV} {k:Nat} (h:k∈keyP p):k∈keyR p:=by cases p <;> first | exact h | cases h
theorem keysR_key {st:PSt} {kn:List (Nat×Bool)} {u:Upd} {x:Operand} {k:Nat} (hx:x∈o.op.operands) (hk:k∈keyP (evK kn st.φ x)):k∈(recU o st kn u).keysR:=by
 refine List.mem_append.2 (.inl (List.mem_append.2 (.inl ?_)))
 split
 ·exact List.mem_flatMap.2 ⟨_,List.mem_map.2 ⟨x,by simpa using hx,rfl⟩,keyP_R hk⟩
 ·exact List.mem_flatMap.2 ⟨_,List.mem_map.2 ⟨x,by simpa using hx,rfl⟩,hk⟩
theorem keysD_keyR {st:PSt} {kn:List (Nat×Bool)} {u:Upd} {x:Operand} {k:Nat} (hp:plainLd o.op u.val=true) (hx:x∈o.op.operands) (hk:k∈keyR (evK kn st.φ x)):k∈(recU o st kn u).keysD:=by
 show k∈(match plainLd o.op u.val with | true=>(o.op.operands.toList.map (evK kn st.φ)).flatMap keyR | false=>[])
 rw [hp]
 exact List.mem_flatMap.2 ⟨_,List.mem_map.2 ⟨x,by simpa using hx,rfl⟩,hk⟩
theorem keysR_keyR {st:PSt} {kn:List (Nat×Bool)} {u:Upd} {x:Operand} {k:Nat} (hr:readsP o.op=true) (hp:plainLd o.op u.val=false) (hx:x∈o.op.operands) (hk:k∈keyR (evK kn st.φ x)):k∈(recU o st kn u).keysR:=by
 refine List.mem_append.2 (.inl (List.mem_append.2 (.inl ?_)))
 rw [hr,hp]
 exact List.mem_flatMap.2 ⟨_,List.mem_map.2 ⟨x,by simpa using hx,rfl⟩,hk⟩
theorem plain_fv {st:PSt} {ev:Operand->PV} {u:Upd} {t:TypeId} {x:Operand} {T:Nat} {j:Int} {off:Nat} (hop:o.op=.load t x) (hx:ev x=.fp T j off) (hv:pvU E o st ev some=some u) (hp:isFvP u.val=false) :
  ∀ b v e l y,poolL st.L (pk T)=some (b,v,⟨e,l⟩)->getI l j=some y->fvAt E o.dst b (osFind (osF e y 0) off)=none:=by
 intro b v e l y h1 h2
 simp only [pvU,hop,hx] at hv
 split at hv
 ·unfold loadP at hv
  rw [h1] at hv
  dsimp only at hv
  rw [h2,Option.bind_some] at hv
  split at hv
  ·rename_i E' e' r hf
   split at hv
   ·cases hv;cases hp
   ·cases hv
  ·rename_i hf;exact hf
 ·cases hv
def SpIn (X:PSt) (g:Option Nat) (s:PSt):Prop:=∀ t,hasN s.sp t=true->hasN X.sp t=true \/ g=some t
theorem stepU_at {g:Option Nat} {st X:PSt} {kn kn':List (Nat×Bool)} {rc:Rec} {s:PSt} (hA:Alike A st X kn kn') (hops:∀ t,.tmp t∈o.op.operands->A t) (hk:∀ x,o.dst=some x->knows kn' x=none) (hF:Foot o.dst rc st X) (hv:stepU E o kn st (fun rc s=>some (rc,s))=some (rc,s)) :
  ∃ s',stepU E o kn' X (fun rc s=>some (rc,s))=some (rc,s') /\ Like s' (appR o.dst rc X) /\ SpIn X g s':=by
 have hev:∀ x∈o.op.operands,evK kn' X.φ x=evK kn st.φ x:=fun x hx=>hA.ev fun t e=>hops t (e ▸ hx)
 have hfd:=freeD_at (φ:=X.φ) (L:=X.L) (O:=X.O) (fr:=X.fr) fun x hx=>⟨hF.free x hx,hk x hx⟩
 unfold stepU at hv ⊢
 rw [hfd]
 split at hv
 case h_2=>cases hv
 dsimp only
 split at hv
 ·rename_i c a b hop
  split at hv
  ·rename_i p hp
   injection hv with hv
   obtain ⟨rfl,rfl⟩:=Prod.mk.inj hv
   have e:pickP kn' X.φ c a b=pickP kn st.φ c a b:=by
    have hc:=hev c (by simp [hop,Op.operands])
    unfold pickP
    split
    ·rename_i t
     rw [hc]
     have e1:=(hA.cons t true).ev (x:=a) fun t e=>hops t (by simp [hop,Op.operands,e])
     have e2:=(hA.cons t false).ev (x:=b) fun t e=>hops t (by simp [hop,Op.operands,e])
     rw [e1,e2]
    ·rfl
   rw [e,hp]
   exact ⟨_,rfl,⟨rfl,rfl,putO_nil.symm,fun _=>rfl⟩,fun t h=>.inl h⟩
  ·cases hv
 ·obtain ⟨u,h1,h2⟩:=pvU_nat hv
  split at h1
  ·rename_i hok
   injection h1 with h1
   obtain ⟨rfl,rfl⟩:=Prod.mk.inj h1
   have hlk:∀ x∈o.op.operands,∀ k∈keyP (evK kn st.φ x),X.L k=st.L k:=fun x hx k hk=>hF.L k (.inl (keysR_key hx hk))
   have hnk:∀ k∈newK o.op,X.L k=st.L k:=fun k hk=>hF.L k (.inl (List.mem_append.2 (.inr hk)))
   have hld:isLd o.op=false->plainLd o.op u.val=false:=fun e=>by unfold plainLd;rw [e];rfl
   have hs:Sees (E:=E) o ⟨st.φ,st.L,st.O,kn,st.sp,st.fr⟩ ⟨X.φ,X.L,X.O,kn',X.sp,X.fr⟩ (evK kn st.φ) (evK kn' X.φ):=by
    refine ⟨hev,hlk,hF.fr,fun hr x hx t ht=>hF.O t ?_,hF.zero,fun hr hl x hx k hk=>hF.L k (.inl (keysR_keyR hr (hld hl) hx hk)),hnk,fun hc k hk=>hF.L k (.inr (.inr ⟨hc,hk⟩)),fun hp x hx t ht=>hF.O t (by
     show t∈(recU o st kn u).toksR
     unfold recU
     dsimp only
     have hp':poolOp o.op st.L (evK kn st.φ)=true:=hp
     rw [hp',Bool.or_true]
     exact List.mem_append.2 (.inl (List.mem_flatMap.2 ⟨_,List.mem_map.2 ⟨x,by simpa using hx,rfl⟩,ht⟩))),fun t x T j off hop hx=>?_,fun t x T j off i hop hx=>?_⟩
    rotate_left
    ·have hxm:x∈o.op.operands:=by rw [hop];simp [Op.operands]
     have hkr:pk T∈keyR (evK kn st.φ x):=by rw [hx];simp [keyR]
     cases hp:plainLd o.op u.val with
     | false=>exact .inl (hF.L _ (.inl (keysR_keyR (by rw [hop];rfl) hp hxm hkr)))
     | true=>
      refine .inr ⟨hF.D _ (keysD_keyR hp hxm hkr),plain_fv hop hx (h2 some) ?_⟩
      unfold plainLd at hp
      rw [hop] at hp
      simpa [isLd] using hp
    ·have hxm:x∈o.op.operands:=by rw [hop];simp [Op.operands]
     have hkr:pk T∈keyR (evK kn st.φ x):=by rw [hx];simp [keyR]
     cases hp:plainLd o.op u.val with
     | false=>
      have e1:=hF.L _ (.inl (keysR_keyR (by rw [hop];rfl) hp hxm hkr))
      unfold poolD
      rw [poolL_congr e1]
     | true=>exact hF.D _ (keysD_keyR hp hxm hkr)
    show t∈(recU o st kn u).toksR
    unfold recU
    rw [hr,Bool.true_or]
    have hm:evK kn st.φ x∈o.op.operands.toList.map (evK kn st.φ):=List.mem_map.2 ⟨x,by simpa using hx,rfl⟩
    rcases ht with ht | ht
    ·exact List.mem_append.2 (.inl (List.mem_flatMap.2 ⟨_,hm,ht⟩))
    ·exact List.mem_append.2 (.inr (List.mem_flatMap.2 ⟨_,hm,ht⟩))
   have hok':okUpd ⟨X.φ,X.L,X.O,kn',X.sp,X.fr⟩ o.dst u=true:=okUpd_at (X:=⟨X.φ,X.L,X.O,kn',X.sp,X.fr⟩) hok (fun k hk=>hF.L k (.inl (List.mem_append.2 (.inl (List.mem_append.2 (.inr hk)))))) (fun p hp=>hF.L p.1 (.inr (.inl (List.mem_map.2 ⟨p,hp,rfl⟩)))) hF.fr hF.ment
   rw [pvU_congr hs,h2,hok',recU_at hev hlk hnk]
   exact ⟨_,rfl,⟨rfl,rfl,rfl,fun _=>rfl⟩,fun t h=>.inl h⟩
  ·cases h1
theorem skipU_at {g:Option Nat} {st X:PSt} {kn kn':List (Nat×Bool)} {rc:Rec} {s:PSt} (hk:∀ x,o.dst=some x->knows kn' x=none) (hF:∀ x,o.dst=some x->hasN X.sp x=false) (hv:skipU o kn st (fun rc s=>some (rc,s))=some (rc,s)) :
  ∃ s',skipU o kn' X (fun rc s=>some (rc,s))=some (rc,s') /\ Like s' (appR o.dst rc X) /\ SpIn X g s':=by
 have hfd:=freeD_at (φ:=X.φ) (L:=X.L) (O:=X.O) (fr:=X.fr) fun x hx=>⟨hF x hx,hk x hx⟩
 unfold skipU at hv ⊢
 rw [hfd]
 split at hv
 case h_2=>cases hv
 injection hv with hv
 obtain ⟨rfl,rfl⟩:=Prod.mk.inj hv
 exact ⟨_,rfl,⟨rfl,rfl,putO_nil.symm,fun _=>rfl⟩,fun t h=>.inl h⟩
theorem wayU_at {g:Option Nat} {want b:Bool} {st X:PSt} {kn kn':List (Nat×Bool)} {rc:Rec} {s:PSt} (hA:Alike A st X kn kn') (hops:∀ t,.tmp t∈o.op.operands->A t) (hk:∀ x,o.dst=some x->knows kn' x=none) (hF:Foot o.dst rc st X) (hv:wayU E o want b kn st (fun rc s=>some (rc,s))=some (rc,s)) :
  ∃ s',wayU E o want b kn' X (fun rc s=>some (rc,s))=some (rc,s') /\ Like s' (appR o.dst rc X) /\ SpIn X g s':=by
 unfold wayU at hv ⊢
 split at hv
 ·exact stepU_at hA hops hk hF hv
 ·exact skipU_at hk hF.free hv
theorem totalO_at {ev ev':Operand->PV} (h:∀ x∈o.op.operands,ev' x=ev x):totalO ev' o.op=totalO ev o.op:=by
 obtain ⟨dst,op,type,pos,after,guard⟩:=o
 cases op with
 | binOp op ty x y uy=>
  have e:=h x (by simp [Op.operands])
  simp only [totalO,e]
 | call c=>
  obtain ⟨callee,args,argTypes⟩:=c
  cases callee with
  | builtin b=>cases b <;> rfl
  | _=>rfl
 | _=>rfl
theorem pvU_total {st X:PSt} {ev ev':Operand->PV} (h:∀ x∈o.op.operands,ev' x=ev x) (ht:totalO ev o.op=true) (C:Upd->Option R):pvU E o X ev' C=pvU E o st ev C:=by
 obtain ⟨dst,op,type,pos,after,guard⟩:=o
 cases op with
 | move x | assign x | field s x f | extract x i | unOp op ty x=>
  have e1:=h x (by simp [Op.operands])
  simp only [pvU,e1]
 | binOp op ty x i uy=>
  have e1:=h x (by simp [Op.operands])
  have e2:=h i (by simp [Op.operands])
  simp only [pvU,e1,e2]
 | call c=>
  obtain ⟨callee,args,argTypes⟩:=c
  cases callee with
  | builtin b=>
   cases b with
   | len=>
    simp only [pvU]
    unfold bltP
    split
    ·rename_i x t ha _
     have hm:x∈args.toList:=by rw [ha];simp
     rw [h x (by simpa [Op.operands,Call.operands] using hm)]
    ·rfl
    ·rfl
   | _=>cases ht
  | _=>cases ht
 | _=>cases ht
theorem specU_at {st X:PSt} {kn kn':List (Nat×Bool)} (hA:Alike A st X kn kn') (hops:∀ t,.tmp t∈o.op.operands->A t):specU E o kn' X=specU E o kn st:=by
 have hev:∀ x∈o.op.operands,evK kn' X.φ x=evK kn st.φ x:=fun x hx=>hA.ev fun t e=>hops t (e ▸ hx)
 unfold specU
 rw [totalO_at hev]
 split
 ·rename_i ht
  exact pvU_total hev ht _
 ·rfl
theorem guardU_at {t:Nat} {want:Bool} {X:PSt} (hops:∀ t,.tmp t∈o.op.operands->A t) (ht:A t):∀ {n:Nat} {kn kn':List (Nat×Bool)} {st:PSt} {rc:Rec} {s:PSt},Alike A st X kn kn'->(∀ x,o.dst=some x->knows kn' x=none /\ ¬ A x)->Foot o.dst rc st X->guardU E o t want n kn st (fun rc s=>some (rc,s))=some (rc,s) ->
  ∃ s',guardU E o t want n kn' X (fun rc s=>some (rc,s))=some (rc,s') /\ Like s' (appR o.dst rc X) /\ SpIn X (some t) s'
 | 0,_,_,_,_,_,_,_,_,hv=>by cases hv
 | n+1,kn,kn',st,rc,s,hA,hk,hF,hv=>by
  have hx:∀ x,o.dst=some x->knows kn' x=none:=fun x hx=>(hk x hx).1
  have hkc:∀ (t':Nat) (b':Bool),A t' -> ∀ x,o.dst=some x->knows ((t',b')::kn') x=none /\ ¬ A x:=fun t' b' ht' x hx=>by
   refine ⟨?_,(hk x hx).2⟩
   unfold knows
   split
   ·rename_i e
    exact ((hk x hx).2 (Nat.eq_of_beq_eq_true e ▸ ht')).elim
   ·exact (hk x hx).1
  have hev:=hA.ev (x:=.tmp t) fun t' e=>by cases e;exact ht
  unfold guardU at hv ⊢
  rw [hev,hA.kn t ht,hA.φ t ht]
  split at hv
  ·rename_i b hb
   split at hv
   ·exact wayU_at hA hops hx hF hv
   ·rename_i hkt
    dsimp only
    rw [specU_at (hA.cons t want) hops]
    split at hv
    ·rename_i ag ls hs
     split at hv
     ·rename_i hfk
      simp only [Bool.and_eq_true] at hfk
      injection hv with hv
      obtain ⟨rfl,rfl⟩:=Prod.mk.inj hv
      have hfr:=freeD_free hfk.1
      have hne:∀ x,o.dst=some x->hasN (t::X.sp) x=false:=fun x hx=>by
       refine Bool.eq_false_iff.2 fun e=>?_
       rcases List.mem_cons.1 (hasN_iff.1 e) with rfl | e
       ·exact (hk _ hx).2 ht
       ·have:=hF.free x hx
        rw [hasN_iff.2 e] at this
        cases this
      have hfd:=freeD_at (φ:=X.φ) (L:=X.L) (O:=X.O) (fr:=X.fr) (kn:=kn') (sp:=t::X.sp) fun x hx'=>⟨hne x hx',hx x hx'⟩
      have hkeep:keepUpd X o.dst (.w ag ls)=true:=okUpd_at (st:=st) hfk.2 (fun k hk=>by cases hk) (fun p hp=>by cases hp) hF.fr fun x hx=>⟨(hF.ment x hx).1,fun p hp=>by cases hp⟩
      have hev2:∀ x∈o.op.operands,evK ((t,want)::kn') X.φ x=evK ((t,want)::kn) st.φ x:=fun x hx=>(hA.cons t want).ev fun t e=>hops t (e ▸ hx)
      have hlk:∀ x∈o.op.operands,∀ k∈keyP (evK ((t,want)::kn) st.φ x),X.L k=st.L k:=fun x hx k hk=>hF.L k (.inl (keysR_key hx hk))
      rw [hfd,hkeep]
      rw [recU_at hev2 hlk (fun k hk=>hF.L k (.inl (List.mem_append.2 (.inr hk))))]
      refine ⟨_,rfl,⟨rfl,rfl,putO_nil.symm,fun _=>rfl⟩,fun t' h=>?_⟩
      rcases List.mem_cons.1 (hasN_iff.1 h) with rfl | e
      ·exact .inr rfl
      ·exact .inl (hasN_iff.2 e)
     ·cases hv
    ·cases b with
     | true=>exact wayU_at (hA.cons t true) hops (fun x hx=>(hkc t true ht x hx).1) hF hv
     | false=>exact wayU_at (hA.cons t false) hops (fun x hx=>(hkc t false ht x hx).1) hF hv
  ·exact skipU_at hx hF.free hv
  ·split at hv
   ·rename_i t1 w1 ag1 ls1 hs1
    have ht1:A t1:=hA.cl t ht _ _ _ _ hs1
    have hev1:=hA.ev (x:=.tmp t1) fun t' e=>by cases e;exact ht1
    rw [hev1,hA.kn t1 ht1]
    split at hv
    ·rename_i b1 hb1 hk1
     cases b1 with
     | true=>exact guardU_at hops ht (hA.cons t1 true) (hkc t1 true ht1) hF hv
     | false=>exact guardU_at hops ht (hA.cons t1 false) (hkc t1 false ht1) hF hv
    ·cases hv
   ·cases hv
  ·cases hv
theorem pvStep_at {st X:PSt} {rc:Rec} {s:PSt} (hA:Alike A st X st.kn X.kn) (hl:∀ t,t∈o.looksAt ops->A t) (hk:∀ x,o.dst=some x->knows X.kn x=none /\ ¬ A x) (hF:Foot o.dst rc st X) (hv:pvStep E ops o st (fun rc s=>some (rc,s))=some (rc,s)) :
  ∃ s',pvStep E ops o X (fun rc s=>some (rc,s))=some (rc,s') /\ Like s' (appR o.dst rc X) /\ SpIn X (gslot ops o) s':=by
 have hops:∀ t,.tmp t∈o.op.operands->A t:=fun t ht=>hl t (List.mem_append.2 (.inl (List.mem_filterMap.2 ⟨.tmp t,by simpa using ht,rfl⟩)))
 unfold pvStep at hv ⊢
 unfold gslot
 split at hv
 ·exact stepU_at hA hops (fun x hx=>(hk x hx).1) hF hv
 ·rename_i j want hg
  split at hv
  ·cases hv
  ·rename_i t ht
   simp only [hg,ht]
   refine guardU_at hops (hl t (List.mem_append.2 (.inr ?_))) hA hk hF hv
   rw [hg]
   simp [ht]
end
section
variable {E : Env} {R : Type} {r : R} {ops : Array Oper} {o : Oper}
inductive Run (E:Env) (ops:Array Oper):List Oper->PSt->List Rec->PSt->Prop
 | nil {st}:Run E ops [] st [] st
 | cons {o l st rc s1 rs s2}:pvStep E ops o st (fun rc s=>some (rc,s))=some (rc,s1)->Run E ops l s1 rs s2->Run E ops (o::l) st (rc::rs) s2
theorem pvOps_run:∀ (l:List Oper) (tr:List Rec) (st:PSt) (C:List Rec->PSt->Option R),pvOps E ops l tr st C=some r -> ∃ rs s,C (tr++rs) s=some r /\ Run E ops l st rs s
 | [],tr,st,C,h=>⟨[],st,by rw [List.append_nil];exact h,.nil⟩
 | o::l,tr,st,C,h=>by
  unfold pvOps at h
  obtain ⟨rc,s,h1,h2⟩:=pvStep_nat h
  obtain ⟨rs,s2,h3,h4⟩:=pvOps_run l _ _ _ h1
  exact ⟨rc::rs,s2,by rw [List.append_assoc] at h3;exact h3,.cons (h2 _) h4⟩
theorem Run.len {l:List Oper} {st s:PSt} {rs:List Rec} (h:Run E ops l st rs s):rs.length=l.length:=by
 induction h with
 | nil=>rfl
 | cons _ _ ih=>simp [ih]
def fold (S:Nat->Bool):List Oper->List Rec->Nat->PSt->PSt
 | o::l,rc::rs,k,X=>fold S l rs (k+1) (cond (S k) (appR o.dst rc X) X)
 | _,_,_,X=>X
structure View {β:Type} (f:PSt->β) (T:Option Nat->Rec->Prop):Prop where
 cong:∀ d rc X X',f X=f X'->f (appR d rc X)=f (appR d rc X')
 keep:∀ d rc X,¬ T d rc->f (appR d rc X)=f X
section
variable {β : Type} {f : PSt -> β} {T : Option Nat -> Rec -> Prop}
theorem fold_agree (hf:View f T) {S S':Nat->Bool}:∀ (l:List Oper) (rs:List Rec) (k:Nat) (X X':PSt),f X=f X'->(∀ i o rc,l[i]? = some o->rs[i]? = some rc->S (k+i)=S' (k+i) \/ ¬ T o.dst rc)->f (fold S l rs k X)=f (fold S' l rs k X')
 | [],_,_,_,_,h,_=>h
 | _::_,[],_,_,_,h,_=>h
 | o::l,rc::rs,k,X,X',h,hS=>by
  unfold fold
  refine fold_agree hf l rs (k+1) _ _ ?_ fun i o' rc' h1 h2=>by
   have:=hS (i+1) o' rc' h1 h2
   rw [show k+1+i=k+(i+1) by omega];exact this
  have h0:S k=S' k \/ ¬ T o.dst rc:=hS 0 o rc rfl rfl
  rcases h0 with e | hn
  ·rw [e]
   cases S' k with
   | true=>exact hf.cong _ _ _ _ h
   | false=>exact h
  ·cases S k <;> cases S' k <;> simp only [cond_true,cond_false,hf.keep _ _ _ hn,h]
theorem fold_keep (hf:View f T) {S:Nat->Bool}:∀ (l:List Oper) (rs:List Rec) (k:Nat) (X:PSt),(∀ i o rc,l[i]? = some o->rs[i]? = some rc->S (k+i)=true -> ¬ T o.dst rc)->f (fold S l rs k X)=f X
 | [],_,_,_,_=>rfl
 | _::_,[],_,_,_=>rfl
 | o::l,rc::rs,k,X,hS=>by
  unfold fold
  rw [fold_keep hf l rs (k+1) _ fun i o' rc' h1 h2 h3=>hS (i+1) o' rc' h1 h2 (by rw [show k+(i+1)=k+1+i by omega];exact h3)]
  cases hk:S k with
  | true=>exact hf.keep _ _ _ (hS 0 o rc rfl rfl hk)
  | false=>rfl
theorem fold_add (hf:View f T) {S S':Nat->Bool} {j:Nat} {oj:Oper} {rj:Rec} (hj:S j=false) (hj':S' j=true) (hS':∀ i,i≠j->S' i=S i):∀ (l:List Oper) (rs:List Rec) (k n:Nat) (X:PSt),j=k+n->l[n]? = some oj->rs[n]? = some rj ->
  (T oj.dst rj -> ∀ i o rc,n < i->l[i]? = some o->rs[i]? = some rc->S (k+i)=true -> ¬ T o.dst rc)->f (fold S' l rs k X)=f (appR oj.dst rj (fold S l rs k X))
 | [],_,_,_,_,_,h,_,_=>by simp at h
 | _::_,[],_,_,_,_,_,h,_=>by simp at h
 | o::l,rc::rs,k,0,X,hk,h1,h2,hT=>by
  have hk:j=k:=hk
  subst hk
  cases h1;cases h2
  unfold fold
  rw [hj,hj']
  show f (fold S' l rs (j+1) (appR oj.dst rj X))=f (appR oj.dst rj (fold S l rs (j+1) X))
  have e1:∀ Y,f (fold S' l rs (j+1) Y)=f (fold S l rs (j+1) Y):=fun Y=>fold_agree hf l rs (j+1) _ _ rfl fun i o' rc' _ _=>.inl (hS' _ (by omega))
  rw [e1]
  by_cases ht:T oj.dst rj
  ·have hq:=hT ht
   have hk2:∀ Y,f (fold S l rs (j+1) Y)=f Y:=fun Y=>fold_keep hf l rs (j+1) Y fun i o' rc' g1 g2 g3=>hq (i+1) o' rc' (by omega) g1 g2 (by rw [show j+(i+1)=j+1+i by omega];exact g3)
   rw [hk2,hf.cong _ _ _ _ (hk2 X)]
  ·rw [hf.keep _ _ _ ht]
   exact fold_agree hf l rs (j+1) _ _ (hf.keep _ _ _ ht) fun i o' rc' _ _=>.inl rfl
 | o::l,rc::rs,k,n+1,X,hk,h1,h2,hT=>by
  unfold fold
  rw [hS' k (by omega)]
  exact fold_add hf hj hj' hS' l rs (k+1) n _ (by omega) h1 h2 fun ht i o' rc' hi g1 g2 g3=>hT ht (i+1) o' rc' (by omega) g1 g2 (by rw [show k+(i+1)=k+1+i by omega];exact g3)
end
theorem view_φ (t:Nat):View (fun X=>X.φ t) (fun d _=>d=some t):=
 ⟨fun d rc X X' h=>by
  show putP X.φ d rc.val t=putP X'.φ d rc.val t
  by_cases e:d=some t
  ·rw [e,putP_at,putP_at]
  ·rw [putP_ne e,putP_ne e];exact h,fun d rc X h=>putP_ne h⟩
theorem view_L (k:Nat):View (fun X=>X.L k) (fun _ rc=>k∈rc.keysW):=
 ⟨fun d rc X X' h=>(putL_congr (L:=X'.L) (L':=X.L) h rc.loc),fun d rc X h=>by
  show putL X.L rc.loc k=X.L k
  have:∀ l:List (Nat×List Leaf),k ∉ l.map (·.1)->putL X.L l k=X.L k:=fun l=>by
   induction l with
   | nil=>intro _;rfl
   | cons p r ih=>
    intro hn
    obtain ⟨k',ls⟩:=p
    unfold putL
    split
    ·rename_i e
     exact (hn (by rw [Nat.eq_of_beq_eq_true e];simp)).elim
    ·exact ih fun e=>hn (by simp at e ⊢;exact .inr e)
  exact this _ h⟩
theorem putL_const {l:List (Nat×List Leaf)} {k:Nat} (h:k∈l.map (·.1)) (L L':Nat->Option (Nat×List Leaf)):putL L l k=putL L' l k:=by
 induction l with
 | nil=>cases h
 | cons p r ih=>
  obtain ⟨k',ls⟩:=p
  unfold putL
  cases hb:Nat.beq k k' with
  | true=>rfl
  | false=>
   refine ih ?_
   rcases List.mem_cons.1 h with h | h
   ·exfalso
    have h:k=k':=h
    rw [h] at hb
    simp at hb
   ·exact h
theorem view_D (k:Nat):View (fun X=>poolD X.L k) (fun _ rc=>k∈rc.keysW):=
 ⟨fun d rc X X' h=>by
  show poolD (putL X.L rc.loc) k=poolD (putL X'.L rc.loc) k
  by_cases hm:k∈rc.loc.map (·.1)
  ·unfold poolD poolL
   rw [putL_const hm X.L X'.L]
  ·have e:∀ X:PSt,(appR d rc X).L k=X.L k:=fun X=>(view_L k).keep d rc X hm
   have e1:putL X.L rc.loc k=X.L k:=e X
   have e2:putL X'.L rc.loc k=X'.L k:=e X'
   have h:poolD X.L k=poolD X'.L k:=h
   unfold poolD poolL at h ⊢
   rw [e1,e2];exact h,fun d rc X h=>by
  show poolD (putL X.L rc.loc) k=poolD X.L k
  have e1:putL X.L rc.loc k=X.L k:=(view_L k).keep d rc X h
  unfold poolD poolL
  rw [e1]⟩
theorem view_O (t:Tok):View (fun X=>X.O t) (fun _ rc=>t∈rc.born \/ t∈rc.gone):=
 ⟨fun d rc X X' h=>by
  show putO X.O rc.born rc.gone t=putO X'.O rc.born rc.gone t
  have h':X.O t=X'.O t:=h
  unfold putO
  rw [h'],fun d rc X h=>by
  show putO X.O rc.born rc.gone t=X.O t
  unfold putO
  split
  ·rename_i e;exact (h (.inl (hasT_iff.1 e))).elim
  ·split
   ·rename_i e;exact (h (.inr (hasT_iff.1 e))).elim
   ·rfl⟩
theorem hasN_out {d:Option Nat} {l:List Nat} {x:Nat}:hasN (outN d l) x=true↔hasN l x=true /\ d≠some x:=by
 rw [hasN_iff,hasN_iff]
 exact outN_mem
theorem view_fr (x:Nat):View (fun X=>hasN X.fr x) (fun d _=>d=some x):=
 ⟨fun d rc X X' h=>by
  have h':hasN X.fr x=hasN X'.fr x:=h
  show hasN (outN d X.fr) x=hasN (outN d X'.fr) x
  rw [Bool.eq_iff_iff,hasN_out,hasN_out,h'],fun d rc X h=>by
  show hasN (outN d X.fr) x=hasN X.fr x
  rw [Bool.eq_iff_iff,hasN_out]
  exact ⟨fun e=>e.1,fun e=>⟨e,h⟩⟩⟩
end
section
variable {E : Env} {F : Fr} {R : Type} {r : R} {ops : Array Oper} {g : Gh} {w : World} {tmf : Nat -> Value}
theorem MRel.drew {st:PSt} (h:MRel F g st tmf w):MRel F g st tmf { w with drawn:=w.drawn+1 }:=by
 have G:Gw w g.C { w with drawn:=w.drawn+1 } g.C:=⟨fun a u hc hC=>⟨hc,hC⟩,fun _ _ _ q=>q⟩
 have K:∀ b,Kp g w g { w with drawn:=w.drawn+1 } b:=fun b=>⟨rfl,fun _=>Iff.rfl⟩
 have Lv:∀ k,Lives g w st.O g { w with drawn:=w.drawn+1 } st.O k:=fun k hk=>⟨hk,rfl,fun b _=>K b⟩
 exact ⟨⟨h.fr.size,h.fr.os,h.fr.tape,h.fr.output,h.fr.old,h.fr.shape,h.fr.com,h.fr.mono,h.fr.imono,h.fr.lim⟩,fun i=>(h.slots i).gw G (fun k _=>Lv k) (fun _ _=>rfl) (fun _ _ _ _ _=>rfl) (fun k _ _=>.inl ⟨rfl,fun b j s hb=>⟨K b,hb⟩⟩),fun k σ ls hL np=>(h.locals k σ ls hL np).gw (st:=st) G (fun k _ _ _ _=>Lv k) (K _),fun k σ ls hL np=>(h.pools k σ ls hL np).gw G rfl (fun _=>rfl) fun b j s hb=>⟨K b,hb⟩,
  h.hist,h.kn,h.sp,h.fresh,h.locL,h.blk0,h.blkI,h.blkL,h.blkS,h.blkW,h.ρI,⟨h.ows.tok,h.ows.loc,h.ows.lim,h.ows.fr,h.ows.mono,h.ows.i,h.ows.wr⟩⟩
theorem MRel.relike {s X:PSt} (h:MRel F g s tmf w) (hφ:s.φ=X.φ) (hL:s.L=X.L) (hO:s.O=X.O) (hf:∀ x,hasN X.fr x=true->hasN s.fr x=true) (hs:∀ i t want ag ls,X.φ i=.spec t want ag ls->hasN X.sp t=true) (hk:∀ t b,knows X.kn t=some b->tmf t=.bool b):MRel F g X tmf w:=by
 obtain ⟨φ,L,O,kn,sp,fr⟩:=X
 cases hφ;cases hL;cases hO
 exact ⟨h.fr,h.slots,h.locals,h.pools,h.hist,hk,hs,fun d hd=>h.fresh d (hf d hd),h.locL,h.blk0,h.blkI,h.blkL,h.blkS,h.blkW,h.ρI,h.ows⟩
theorem facts {A:Nat->Prop} {X:PSt} {φ:Nat->PV} {kn:List (Nat×Bool)} (hM:∀ i,RelP F g w X.O tmf (tmf i) (X.φ i)) (hφ:∀ t,A t->X.φ t=φ t) (hcl:∀ t,A t -> ∀ j w ag ls,φ t=.spec j w ag ls->A j) (hk:KnOK φ kn):∀ t b,A t->knows kn t=some b->tmf t=.bool b:=by
 induction hk with
 | nil=>intro t b _ h;cases h
 | @cons t0 b0 kn h0 hj ih=>
  intro t b ht h
  unfold knows at h
  split at h
  ·rename_i e
   have e:=Nat.eq_of_beq_eq_true e
   subst e
   injection h with h
   subst h
   have h1:=hM t0
   rw [hφ t0 ht] at h1
   rcases hj with hj | ⟨t',w',hj,hk'⟩
   ·rw [hj] at h1
    exact rel_bool h1
   ·have h2:=ih t' w' (hcl t0 ht _ _ _ _ hj) hk'
    rw [hj] at h1
    obtain ⟨b',g1,g2,g3⟩:=h1
    rw [h2] at g1
    have e:b'=w':=by injection g1 with g1;exact g1.symm
    exact rel_bool (tmf:=tmf) (g2 e)
  ·exact ih t b ht h
theorem like_refl (a:PSt):Like a a:=⟨rfl,rfl,rfl,fun _=>rfl⟩
theorem Like.trans {a b c:PSt} (h:Like a b) (k:Like b c):Like a c:=⟨h.1.trans k.1,h.2.1.trans k.2.1,h.2.2.1.trans k.2.2.1,fun x=>(h.2.2.2 x).trans (k.2.2.2 x)⟩
theorem fold_like {S S':Nat->Bool} {l:List Oper} {rs:List Rec} {k:Nat} {X X':PSt} (h:Like X X') (hS:∀ i,i < l.length->S (k+i)=S' (k+i)):Like (fold S l rs k X) (fold S' l rs k X'):=by
 have hS':∀ i (o:Oper) (rc:Rec),l[i]? = some o->rs[i]? = some rc -> ∀ T:Prop,S (k+i)=S' (k+i) \/ ¬ T:=fun i o rc h1 _ _=>.inl (hS i (List.getElem?_eq_some_iff.1 h1).1)
 exact ⟨funext fun t=>fold_agree (view_φ t) l rs k X X' (by rw [h.1]) fun i o rc h1 h2=>hS' i o rc h1 h2 _,funext fun t=>fold_agree (view_L t) l rs k X X' (by rw [h.2.1]) fun i o rc h1 h2=>hS' i o rc h1 h2 _,
  funext fun t=>fold_agree (view_O t) l rs k X X' (by rw [h.2.2.1]) fun i o rc h1 h2=>hS' i o rc h1 h2 _,fun x=>fold_agree (view_fr x) l rs k X X' (h.2.2.2 x) fun i o rc h1 h2=>hS' i o rc h1 h2 _⟩
theorem fold_none {S:Nat->Bool}:∀ (l:List Oper) (rs:List Rec) (k:Nat) (X:PSt),(∀ i,k<=i->S i=false)->fold S l rs k X=X
 | [],_,_,_,_=>rfl
 | _::_,[],_,_,_=>rfl
 | o::l,rc::rs,k,X,h=>by
  unfold fold
  rw [h k (Nat.le_refl k)]
  exact fold_none l rs (k+1) X fun i hi=>h i (by omega)
theorem Run.at {l:List Oper} {st s:PSt} {rs:List Rec} (h:Run E ops l st rs s):∀ (k j:Nat) (o:Oper),l[j]? = some o -> ∃ rc sj sj',rs[j]? = some rc /\ pvStep E ops o sj (fun rc s=>some (rc,s))=some (rc,sj') /\ Like sj (fold (fun i=>decide (i < k+j)) l rs k st) /\ (KnOK st.φ st.kn->KnOK sj.φ sj.kn):=by
 induction h with
 | nil=>intro k j o h;simp at h
 | @cons o l st rc s1 rs s2 h1 h2 ih=>
  intro k j o' hj
  cases j with
  | zero=>
   cases hj
   refine ⟨rc,st,s1,rfl,h1,?_,fun h=>h⟩
   rw [fold_none _ _ _ _ fun i hi=>by simp;omega]
   exact like_refl st
  | succ j=>
   obtain ⟨rc',sj,sj',g1,g2,g3,g4⟩:=ih (k+1) j o' hj
   have hok:=pvStep_ok h1
   refine ⟨rc',sj,sj',g1,g2,g3.trans ?_,fun h=>g4 (hok.kn h)⟩
   have e:fold (fun i=>decide (i < k+(j+1))) (o::l) (rc::rs) k st=fold (fun i=>decide (i < k+(j+1))) l rs (k+1) (appR o.dst rc st):=by
    show fold _ l rs (k+1) (cond (decide (k < k+(j+1))) (appR o.dst rc st) st)=_
    rw [decide_eq_true (by omega)];rfl
   rw [e]
   exact fold_like hok.like fun i _=>by congr 1;simp;omega
theorem Run.last {l:List Oper} {st s:PSt} {rs:List Rec} (h:Run E ops l st rs s):∀ k:Nat,Like s (fold (fun _=>true) l rs k st) /\ (KnOK st.φ st.kn->KnOK s.φ s.kn) /\ ((∀ i t want ag ls,st.φ i=.spec t want ag ls->hasN st.sp t=true) -> ∀ i t want ag ls,s.φ i=.spec t want ag ls->hasN s.sp t=true):=by
 induction h with
 | nil=>exact fun k=>⟨like_refl _,fun h=>h,fun h=>h⟩
 | @cons o l st rc s1 rs s2 h1 h2 ih=>
  intro k
  obtain ⟨g1,g2,g3⟩:=ih (k+1)
  have hok:=pvStep_ok h1
  refine ⟨g1.trans (fold_like hok.like fun _ _=>rfl),fun h=>g2 (hok.kn h),fun h=>g3 fun i t want ag ls hs=>?_⟩
  rw [hok.like.1] at hs
  have hs':putP st.φ o.dst rc.val i=.spec t want ag ls:=hs
  by_cases hi:o.dst=some i
  ·rw [hi,putP_at] at hs'
   exact (hok.spec t want ag ls hs').2
  ·rw [putP_ne hi] at hs'
   exact hok.sp t (h i t want ag ls hs')
theorem insN_mem {n i:Nat} {l:List Nat} (h:i∈insN n l):i=n \/ i∈l:=by
 unfold insN at h
 split at h
 ·exact .inr h
 ·exact List.mem_cons.1 h
theorem unionN_mem {i:Nat}:∀ {l l':List Nat},i∈unionN l l'->i∈l \/ i∈l'
 | [],_,h=>.inr h
 | x::r,l',h=>by
  have h':i∈insN x (unionN r l'):=h
  rcases insN_mem h' with e | h'
  ·exact .inl (by simp [e])
  ·rcases unionN_mem h' with h' | h'
   ·exact .inl (by simp [h'])
   ·exact .inr h'
theorem ancs_fold {acc:List (List Nat)} {i:Nat}:∀ {es:List Edge},i∈es.foldr (fun e l=>insN e.on (unionN (acc.getD e.on []) l)) [] -> ∃ e∈es,i=e.on \/ i∈acc.getD e.on []
 | [],h=>by cases h
 | e::es,h=>by
  rw [List.foldr_cons] at h
  rcases insN_mem h with h | h
  ·exact ⟨e,by simp,.inl h⟩
  ·rcases unionN_mem h with h | h
   ·exact ⟨e,by simp,.inr h⟩
   ·obtain ⟨e',h1,h2⟩:=ancs_fold h
    exact ⟨e',by simp [h1],h2⟩
theorem ancs_old:∀ (l:List Oper) (acc:List (List Nat)) (j:Nat),j < acc.length->(ancs l acc).getD j []=acc.getD j []
 | [],_,_,_=>rfl
 | o::l,acc,j,h=>by
  unfold ancs
  rw [ancs_old l _ j (by simp;omega)]
  simp [List.getD_eq_getElem?_getD,List.getElem?_append_left h]
theorem ancs_get:∀ (l:List Oper) (acc:List (List Nat)) (n:Nat) (o:Oper),l[n]? = some o -> ∀ i,i∈(ancs l acc).getD (acc.length+n) [] -> ∃ e∈o.after.toList,Region.binds .any e=true /\ (i=e.on \/ (e.on < acc.length+n /\ i∈(ancs l acc).getD e.on []))
  | [],_,_,_,h,_,_=>by simp at h
  | o::l,acc,0,o',h,i,hi=>by
    cases h
    unfold ancs at hi ⊢
    rw [ancs_old l _ _ (by simp)] at hi
    have hi':i∈(o.after.toList.filter (Region.binds .any)).foldr (fun e l=>insN e.on (unionN (acc.getD e.on []) l)) []:=by simpa [List.getD_eq_getElem?_getD] using hi
    obtain ⟨e,h1,h2⟩:=ancs_fold hi'
    obtain ⟨h1,h3⟩:=List.mem_filter.1 h1
    refine ⟨e,h1,h3,?_⟩
    rcases h2 with h2 | h2
    · exact .inl h2
    · have hlt : e.on < acc.length := by
        by_cases hlt:e.on < acc.length
        · exact hlt
        · simp [List.getD_eq_getElem?_getD,List.getElem?_eq_none (show acc.length<=e.on by omega)] at h2
      refine .inr ⟨hlt,?_⟩
      rw [ancs_old l _ _ (by simp;omega)]
      simpa [List.getD_eq_getElem?_getD,List.getElem?_append_left hlt] using h2
  | o::l,acc,n+1,o',h,i,hi=>by
    unfold ancs at hi ⊢
    have:=ancs_get l (acc++[(o.after.toList.filter (Region.binds .any)).foldr (fun e l=>insN e.on (unionN (acc.getD e.on []) l)) []]) n o' h i (by rw [List.length_append,List.length_singleton,Nat.add_assoc,Nat.add_comm 1 n];exact hi)
    rw [List.length_append,List.length_singleton,Nat.add_assoc,Nat.add_comm 1 n] at this
    exact this
theorem waits_in {S:Nat->Bool} (hc:∀ j o,ops[j]? = some o->S j=true -> ∀ e∈o.after.toList,Region.binds .any e=true->S e.on=true):∀ (n j:Nat),j < n -> ∀ o,ops[j]? = some o->(∀ e∈o.after.toList,Region.binds .any e=true->S e.on=true) -> ∀ i,waitsN (ancs ops.toList []) j i=true->S i=true
 | 0,j,hn,_,_,_,_,_=>by omega
 | n+1,j,hn,o,ho,hr,i,hw=>by
  have hi:i∈(ancs ops.toList []).getD (([]:List (List Nat)).length+j) []:=by
   rw [List.length_nil,Nat.zero_add];exact hasN_iff.1 hw
  obtain ⟨e,h1,h2,h3⟩:=ancs_get ops.toList [] j o (by simpa using ho) i hi
  rcases h3 with rfl | ⟨h3,h4⟩
  ·exact hr e h1 h2
  ·simp at h3
   have hlt:e.on < ops.size:=by
    have:=(Array.getElem?_eq_some_iff.1 ho).1
    omega
   exact waits_in hc n e.on (by omega) ops[e.on] (by simp [hlt]) (hc e.on ops[e.on] (by simp [hlt]) (hr e h1 h2)) i (hasN_iff.2 h4)
structure Apart (ops:Array Oper) (oi oj:Oper) (ri rj:Rec):Prop where
 looks:∀ d,oi.dst=some d->d ∉ oj.looksAt ops /\ mentP d rj.val=false /\ ∀ p∈rj.loc,mentLs d p.2=false
 back:∀ d,oj.dst=some d->d ∉ oi.looksAt ops
 keys:∀ k∈ri.keysW,k ∉ rj.keysW /\ k ∉ rj.keysR /\ ¬ (rj.anyP=true /\ isPool k=true)
 keysB:∀ k∈rj.keysW,k ∉ ri.keysR /\ ¬ (ri.anyP=true /\ isPool k=true)
 keysD:∀ k∈ri.keysW,k∈rj.keysD->k∈ri.bump
 keysE:∀ k∈rj.keysW,k∈ri.keysD->k∈rj.bump
 toks:∀ t∈ri.toks,t ∉ rj.toks
structure Chk (ops:Array Oper) (rs:List Rec):Prop where
 self:∀ (j:Nat) (o:Oper),ops[j]? = some o -> ∀ d,o.dst=some d->d ∉ o.looksAt ops
 on:∀ (j:Nat) (o:Oper),ops[j]? = some o -> ∀ e∈o.after.toList,Region.binds .any e=true->e.on < j
 grd:∀ (j:Nat) (o:Oper),ops[j]? = some o -> ∀ i b,o.guard=some (i,b)->waitsN (ancs ops.toList []) j i=true
 dist:∀ (i j:Nat) (oi oj:Oper),ops[i]? = some oi->ops[j]? = some oj->i≠j -> ∀ d,oi.dst=some d->oj.dst≠some d
 apart:∀ (i j:Nat) (oi oj:Oper) (ri rj:Rec),i < j->ops[i]? = some oi->ops[j]? = some oj->rs[i]? = some ri->rs[j]? = some rj->waitsN (ancs ops.toList []) j i=false->Apart ops oi oj ri rj
theorem hasN_not {l:List Nat} {x:Nat} (h:hasN l x=false):x ∉ l:=fun e=>by rw [hasN_iff.2 e] at h;cases h
theorem hasT_not {l:List Tok} {x:Tok} (h:hasT l x=false):x ∉ l:=fun e=>by rw [hasT_iff.2 e] at h;cases h
theorem okDraw_chk {rs:List Rec} (hl:rs.length=ops.size) (h:okDraw ops rs=true):Chk ops rs:=by
 simp only [okDraw,Bool.and_eq_true,List.all_eq_true,List.mem_range] at h
 have one:∀ (j:Nat) (o:Oper),ops[j]? = some o->(match o.dst with | some d=>!(hasN (o.looksAt ops) d) | none=>true)=true /\ (∀ e∈o.after.toList,(!Region.binds .any e||Nat.blt e.on j)=true) /\ (match o.guard with | some (g,_)=>waitsN (ancs ops.toList []) j g | none=>true)=true:=fun j o ho=>by
  have:=(h.2 j (Array.getElem?_eq_some_iff.1 ho).1).1
  unfold okOne at this
  simp only [ho,Bool.and_eq_true,List.all_eq_true] at this
  exact ⟨this.1.1,this.1.2,this.2⟩
 have two:∀ (i j:Nat) (oi oj:Oper) (ri rj:Rec),i < j->ops[i]? = some oi->ops[j]? = some oj->rs[i]? = some ri->rs[j]? = some rj->(match oi.dst,oj.dst with | some d,some d'=>!(Nat.beq d d') | _,_=>true)=true /\ (waitsN (ancs ops.toList []) j i=true \/ Apart ops oi oj ri rj):=fun i j oi oj ri rj hij hi hj hri hrj=>by
  have:=(h.2 j (Array.getElem?_eq_some_iff.1 hj).1).2 i hij
  unfold okTwo at this
  simp only [hi,hj,hri,hrj,Bool.and_eq_true,Bool.or_eq_true,List.all_eq_true,Bool.not_eq_true'] at this
  refine ⟨this.1,this.2.imp (fun h=>h) fun h=>?_⟩
  obtain ⟨⟨⟨⟨h1,h2⟩,h3⟩,h4⟩,h5⟩:=h
  refine ⟨fun d hd=>?_,fun d hd=>?_,fun k hk=>⟨hasN_not (h3 k hk).1.1.1,hasN_not (h3 k hk).1.1.2,fun e=>by have:=(h3 k hk).1.2;rw [e.1,e.2] at this;cases this⟩,fun k hk=>⟨hasN_not (h4 k hk).1.1,fun e=>by have:=(h4 k hk).1.2;rw [e.1,e.2] at this;cases this⟩,fun k hk hd=>?_,fun k hk hd=>?_,fun t ht=>hasT_not (h5 t ht)⟩
  ·rw [hd] at h1
   simp only [Bool.and_eq_true,Bool.not_eq_true',List.all_eq_true] at h1
   exact ⟨hasN_not h1.1.1,h1.1.2,h1.2⟩
  ·rw [hd] at h2
   simp only [Bool.not_eq_true'] at h2
   exact hasN_not h2
  ·rcases (h3 k hk).2 with e | e
   ·exact (hasN_not e hd).elim
   ·exact hasN_iff.1 e
  ·rcases (h4 k hk).2 with e | e
   ·exact (hasN_not e hd).elim
   ·exact hasN_iff.1 e
 have rget:∀ (j:Nat) (o:Oper),ops[j]? = some o -> ∃ rc,rs[j]? = some rc:=fun j o ho=>⟨rs[j]'(by rw [hl];exact (Array.getElem?_eq_some_iff.1 ho).1),by simp⟩
 refine ⟨fun j o ho d hd=>?_,fun j o ho e he hb=>?_,fun j o ho i b hg=>?_,fun i j oi oj hi hj hij d hd hd'=>?_,fun i j oi oj ri rj hij hi hj hri hrj hw=>?_⟩
 ·have:=(one j o ho).1
  rw [hd] at this
  simp only [Bool.not_eq_true'] at this
  exact hasN_not this
 ·have:=(one j o ho).2.1 e he
  rw [hb] at this
  simpa [Nat.blt_eq] using this
 ·have:=(one j o ho).2.2
  rw [hg] at this
  exact this
 ·obtain ⟨ri,hri⟩:=rget i oi hi
  obtain ⟨rj,hrj⟩:=rget j oj hj
  have key:∀ (i j:Nat) (oi oj:Oper) (ri rj:Rec),i < j->ops[i]? = some oi->ops[j]? = some oj->rs[i]? = some ri->rs[j]? = some rj->oi.dst=some d->oj.dst=some d->False:=fun i j oi oj ri rj hij hi hj hri hrj hd hd'=>by
   have:=(two i j oi oj ri rj hij hi hj hri hrj).1
   rw [hd,hd'] at this
   simp at this
  rcases Nat.lt_or_gt_of_ne hij with hlt | hlt
  ·exact key i j oi oj ri rj hlt hi hj hri hrj hd hd'
  ·exact key j i oj oi rj ri hlt hj hi hrj hri hd' hd
 ·rcases (two i j oi oj ri rj hij hi hj hri hrj).2 with h | h
  ·rw [h] at hw;cases hw
  ·exact h
def spOf (ops:Array Oper) (S:Nat->Bool):List Nat:=(List.range ops.size).filterMap fun i=>match S i with | true=>(ops[i]?).bind (·.dst) | false=>none
theorem mem_spOf {S:Nat->Bool} {t:Nat}:hasN (spOf ops S) t=true ↔ ∃ i o,ops[i]? = some o /\ S i=true /\ o.dst=some t:=by
 rw [hasN_iff]
 unfold spOf
 rw [List.mem_filterMap]
 constructor
 ·rintro ⟨i,h1,h2⟩
  split at h2
  ·rename_i hS
   cases ho:ops[i]? with
   | none=>rw [ho] at h2;cases h2
   | some o=>rw [ho] at h2;exact ⟨i,o,ho,hS,h2⟩
  ·cases h2
 ·rintro ⟨i,o,h1,h2,h3⟩
  refine ⟨i,List.mem_range.2 (Array.getElem?_eq_some_iff.1 h1).1,?_⟩
  rw [h2,h1]
  exact h3
theorem gslot_some {o:Oper} {t:Nat} (h:gslot ops o=some t):∃ i b og,o.guard=some (i,b) /\ ops[i]? = some og /\ og.dst=some t:=by
 unfold gslot at h
 split at h
 ·cases h
 ·rename_i i b hg
  cases ho:ops[i]? with
  | none=>rw [ho] at h;cases h
  | some og=>rw [ho] at h;exact ⟨i,b,og,hg,ho,h⟩
theorem fold_fr {S:Nat->Bool} {x:Nat}:∀ (l:List Oper) (rs:List Rec) (k:Nat) (X:PSt),hasN (fold S l rs k X).fr x=true->hasN X.fr x=true
 | [],_,_,_,h=>h
 | _::_,[],_,_,h=>h
 | o::l,rc::rs,k,X,h=>by
  unfold fold at h
  have:=fold_fr l rs (k+1) _ h
  cases hk:S k with
  | true=>rw [hk] at this;exact (hasN_out.1 this).1
  | false=>rw [hk] at this;exact this
theorem fold_out {S:Nat->Bool} {x:Nat}:∀ (l:List Oper) (rs:List Rec) (k n:Nat) (o:Oper) (rc:Rec) (X:PSt),l[n]? = some o->rs[n]? = some rc->S (k+n)=true->o.dst=some x->hasN (fold S l rs k X).fr x=false
 | [],_,_,_,_,_,_,h,_,_,_=>by simp at h
 | _::_,[],_,_,_,_,_,_,h,_,_=>by simp at h
 | o::l,rc::rs,k,0,o',rc',X,h1,h2,h3,h4=>by
  cases h1
  refine Bool.eq_false_iff.2 fun h=>?_
  unfold fold at h
  have h3:S k=true:=h3
  have:=fold_fr l rs (k+1) _ h
  rw [h3] at this
  exact (hasN_out.1 this).2 h4
 | o::l,rc::rs,k,n+1,o',rc',X,h1,h2,h3,h4=>by
  unfold fold
  exact fold_out l rs (k+1) n o' rc' _ h1 h2 (by rw [<-h3];congr 1;omega) h4
def mkSt (ops:Array Oper) (S:Nat->Bool) (rs:List Rec) (st0:PSt):PSt:=⟨(fold S ops.toList rs 0 st0).φ,(fold S ops.toList rs 0 st0).L,(fold S ops.toList rs 0 st0).O,[],spOf ops S,(fold S ops.toList rs 0 st0).fr⟩
theorem knows_filter {A:Nat->Bool} {kn:List (Nat×Bool)} {t:Nat}:knows (kn.filter fun p=>A p.1) t=match A t with | true=>knows kn t | false=>none:=by
 induction kn with
 | nil=>cases A t <;> rfl
 | cons p r ih=>
  obtain ⟨j,b⟩:=p
  by_cases hj:j=t
  ·subst hj
   cases hA:A j with
   | true=>rw [List.filter_cons_of_pos (by simpa using hA)];simp [knows]
   | false=>rw [List.filter_cons_of_neg (by simp [hA]),ih,hA]
  ·have hb:Nat.beq j t=false:=Bool.eq_false_iff.2 fun e=>hj (Nat.eq_of_beq_eq_true e)
   cases hA:A j with
   | true=>
    rw [List.filter_cons_of_pos (by simpa using hA)]
    simp only [knows,hb]
    exact ih
   | false=>
    rw [List.filter_cons_of_neg (by simp [hA]),ih]
    simp only [knows,hb]
open Classical in
theorem draw_step (hE:E.okF F) {rs:List Rec} {st0 s:PSt} (hrun:Run E ops ops.toList st0 rs s) (hc:Chk ops rs) (hst0:∀ i t want ag ls,st0.φ i≠.spec t want ag ls) (hkn0:st0.kn=[]) {S S':Nat->Bool} {j:Nat} {oj:Oper} {a:Act} (hj:S j=false) (hS':∀ i,S' i=true↔S i=true \/ i=j)
    (hcl:∀ j o,ops[j]? = some o->S j=true -> ∀ e∈o.after.toList,Region.binds .any e=true->S e.on=true) (hoj:ops[j]? = some oj) (hready:∀ e∈oj.after.toList,Region.binds .any e=true->S e.on=true) (hd:∀ x,oj.dst=some x->x < F.n)
    (h:AR F g (mkSt ops S rs st0) a w) {N:Act->World->Prop} {Q:Exit->Act->World->Prop} (hN:∀ a' w' g',AR F g' (mkSt ops S' rs st0) a' w'->Fr1 oj.dst g a w g' a' w'->N a' w'):Way E ops oj a w N Q:=by
  obtain ⟨rc,sj,sj',hrc,hstep,hlike,hknok⟩:=hrun.at 0 j oj (by simpa using hoj)
  simp only [Nat.zero_add] at hlike
  have hok:=pvStep_ok hstep
  have hdone:∀ i,waitsN (ancs ops.toList []) j i=true->S i=true:=waits_in hcl (j+1) j (by omega) oj hoj hready
  have hnot:∀ i o,ops[i]? = some o->S i=true->waitsN (ancs ops.toList []) i j=false:=fun i o ho hi=>Bool.eq_false_iff.2 fun e=>by
    have:=waits_in hcl (i+1) i (by omega) o ho (hcl i o ho hi) j e
    rw [hj] at this;cases this
  have hcmp:∀ i oi ri,ops[i]? = some oi->rs[i]? = some ri->S i≠decide (i < j)->(i < j /\ S i=false /\ Apart ops oi oj ri rc) \/ (j < i /\ S i=true /\ Apart ops oj oi rc ri):=fun i oi ri hoi hri hne=>by
    rcases Nat.lt_trichotomy i j with hlt | heq | hgt
    · rw [decide_eq_true hlt] at hne
      have hSi:S i=false:=by simpa using hne
      exact .inl ⟨hlt,hSi,hc.apart i j oi oj ri rc hlt hoi hoj hri hrc (Bool.eq_false_iff.2 fun e=>hne (hdone i e))⟩
    · subst heq
      rw [hj] at hne;simp at hne
    · rw [decide_eq_false (by omega)] at hne
      have hSi:S i=true:=by simpa using hne
      exact .inr ⟨hgt,hSi,hc.apart j i oj oi rc ri hgt hoj hoi hrc hri (hnot i oi hoi hSi)⟩
  have hφS:∀ t,(∀ i oi,ops[i]? = some oi->oi.dst=some t->S i=decide (i < j))->(fold S ops.toList rs 0 st0).φ t=sj.φ t:=fun t ht=>by
    rw [hlike.1]
    refine fold_agree (view_φ t) ops.toList rs 0 _ _ rfl fun i o ri h1 h2=>?_
    rw [Nat.zero_add]
    by_cases e:o.dst=some t
    · exact .inl (ht i o (by simpa using h1) e)
    · exact .inr e
  have hLS:∀ k,k∈rc.keysR \/ k∈rc.keysW \/ (rc.anyP=true /\ isPool k=true)->(fold S ops.toList rs 0 st0).L k=sj.L k:=fun k hk=>by
    rw [hlike.2.1]
    refine fold_agree (view_L k) ops.toList rs 0 _ _ rfl fun i o ri h1 h2=>?_
    rw [Nat.zero_add]
    by_cases e:S i=decide (i < j)
    · exact .inl e
    · refine .inr fun hkw=>?_
      rcases hcmp i o ri (by simpa using h1) h2 e with ⟨_,_,ha⟩ | ⟨_,_,ha⟩
      · have:=ha.keys k hkw
        rcases hk with hk | hk | hk
        · exact this.2.1 hk
        · exact this.1 hk
        · exact this.2.2 hk
      · rcases hk with hk | hk | hk
        · exact (ha.keysB k hkw).1 hk
        · exact (ha.keys k hk).1 hkw
        · exact (ha.keysB k hkw).2 hk
  have hLD:∀ k,k∈rc.keysD->poolD (fold S ops.toList rs 0 st0).L k=poolD sj.L k:=fun k hk=>by
    have hstep1:∀ n,(∀ o rn,ops[n]? = some o->rs[n]? = some rn->k∈rn.keysW->k∈rn.bump)->poolD (fold (fun i=>decide (i < n+1)) ops.toList rs 0 st0).L k=poolD (fold (fun i=>decide (i < n)) ops.toList rs 0 st0).L k:=fun n hb=>by
      have skip:(∀ o rn,ops[n]? = some o->rs[n]? = some rn->k ∉ rn.keysW)->poolD (fold (fun i=>decide (i < n+1)) ops.toList rs 0 st0).L k=poolD (fold (fun i=>decide (i < n)) ops.toList rs 0 st0).L k:=fun hn=>by
        refine fold_agree (view_D k) ops.toList rs 0 _ _ rfl fun i o ri h1 h2=>?_
        rw [Nat.zero_add]
        by_cases e:i=n
        · subst e
          exact .inr (hn o ri (by simpa using h1) h2)
        · left
          rw [Bool.eq_iff_iff,decide_eq_true_iff,decide_eq_true_iff]
          omega
      cases hon:ops[n]? with
      | none=>exact skip fun o rn h=>by rw [hon] at h;cases h
      | some o=>
        obtain ⟨rn,sn,sn',g1,g2,g3,_⟩:=hrun.at 0 n o (by simpa using hon)
        by_cases hw:k∈rn.keysW
        · have hbump:=hb o rn hon g1 hw
          have hadd2:=fold_add (view_D k) (S:=fun i=>decide (i < n)) (S':=fun i=>decide (i < n+1)) (j:=n) (oj:=o) (rj:=rn) (by simp) (by simp) (fun i hi=>by rw [Bool.eq_iff_iff,decide_eq_true_iff,decide_eq_true_iff];omega) ops.toList rs 0 n st0 (by omega) (by simpa using hon) g1 fun _ i o' ri h1 h2 h3 h4=>by
            exfalso
            rw [Nat.zero_add,decide_eq_true_iff] at h4
            omega
          refine hadd2.trans ?_
          have h5:=(pvStep_ok g2).bump k hbump (fold (fun i=>decide (i < n)) ops.toList rs 0 st0).L
          refine Eq.trans h5 ?_
          simp only [Nat.zero_add] at g3
          rw [g3.2.1]
        · exact skip fun o' rn' h1 h2=>by rw [g1] at h2;cases h2;exact hw
    have hrange:∀ d m,(∀ i,m<=i->i < m+d -> ∀ o ri,ops[i]? = some o->rs[i]? = some ri->k∈ri.keysW->k∈ri.bump)->poolD (fold (fun i=>decide (i < m+d)) ops.toList rs 0 st0).L k=poolD (fold (fun i=>decide (i < m)) ops.toList rs 0 st0).L k:=by
      intro d
      induction d with
      | zero=>intro m _;rfl
      | succ d ih=>
        intro m hb
        refine (hstep1 (m+d) fun o rn h1 h2 h3=>hb (m+d) (by omega) (by omega) o rn h1 h2 h3).trans (ih m fun i h1 h2=>hb i h1 (by omega))
    have hdiff:∀ i o ri,ops[i]? = some o->rs[i]? = some ri->k∈ri.keysW->S i≠decide (i < j)->k∈ri.bump:=fun i o ri h1 h2 hw hne=>by
      rcases hcmp i o ri h1 h2 hne with ⟨_,_,ha⟩ | ⟨_,_,ha⟩
      · exact ha.keysD k hw hk
      · exact ha.keysE k hw hk
    have hq:∀ N:Nat,∃ q,q<=N /\ (∀ i o ri,i < q->ops[i]? = some o->rs[i]? = some ri->k∈ri.keysW->S i=true) /\ (q=N \/ ∃ o ri,ops[q]? = some o /\ rs[q]? = some ri /\ k∈ri.keysW /\ S q=false):=by
      intro N
      induction N with
      | zero=>exact ⟨0,Nat.le_refl _,fun i o ri h=>by omega,.inl rfl⟩
      | succ N ih=>
        obtain ⟨q,h1,h2,h3⟩:=ih
        rcases h3 with h3 | h3
        · subst h3
          by_cases hw:∃ o ri,ops[q]? = some o /\ rs[q]? = some ri /\ k∈ri.keysW /\ S q=false
          · exact ⟨q,by omega,h2,.inr hw⟩
          · refine ⟨q+1,Nat.le_refl _,fun i o ri hi g1 g2 g3=>?_,.inl rfl⟩
            by_cases e:i=q
            · subst e
              cases hS:S i with
              | true=>rfl
              | false=>exact (hw ⟨o,ri,g1,g2,g3,hS⟩).elim
            · exact h2 i o ri (by omega) g1 g2 g3
        · exact ⟨q,by omega,h2,.inr h3⟩
    obtain ⟨q,hqN,hq1,hq2⟩:=hq ops.size
    have hlt:∀ i (o:Oper),ops[i]? = some o->i < ops.size:=fun i o h=>(Array.getElem?_eq_some_iff.1 h).1
    have hge:∀ i o ri,q<=i->ops[i]? = some o->rs[i]? = some ri->k∈ri.keysW->S i=false:=fun i o ri hi g1 g2 g3=>by
      rcases hq2 with e | ⟨oq,rq,e1,e2,e3,e4⟩
      · have:=hlt i o g1;omega
      · by_cases e:q=i
        · rw [<-e];exact e4
        · refine Bool.eq_false_iff.2 fun hS=>?_
          cases hw:waitsN (ancs ops.toList []) i q with
          | true=>
            have:=waits_in hcl (i+1) i (by omega) o g1 (hcl i o g1 hS) q hw
            rw [e4] at this;cases this
          | false=>exact ((hc.apart q i oq o rq ri (by omega) e1 g1 e2 g2 hw).keys k e3).1 g3
    have e1:poolD (fold S ops.toList rs 0 st0).L k=poolD (fold (fun i=>decide (i < q)) ops.toList rs 0 st0).L k:=by
      refine fold_agree (view_D k) ops.toList rs 0 _ _ rfl fun i o ri h1 h2=>?_
      rw [Nat.zero_add]
      by_cases hw:k∈ri.keysW
      · left
        rcases Nat.lt_or_ge i q with h | h
        · rw [hq1 i o ri h (by simpa using h1) h2 hw,decide_eq_true h]
        · rw [hge i o ri h (by simpa using h1) h2 hw,decide_eq_false (by omega)]
      · exact .inr hw
    have e2:poolD (fold (fun i=>decide (i < q)) ops.toList rs 0 st0).L k=poolD (fold (fun i=>decide (i < j)) ops.toList rs 0 st0).L k:=by
      rcases Nat.le_total j q with h | h
      · have:=hrange (q - j) j fun i g1 g2 o ri q1 q2 q3=>hdiff i o ri q1 q2 q3 (by rw [hq1 i o ri (by omega) q1 q2 q3,decide_eq_false (by omega)];simp)
        rw [show j+(q - j)=q by omega] at this
        exact this
      · have:=hrange (j - q) q fun i g1 g2 o ri q1 q2 q3=>hdiff i o ri q1 q2 q3 (by rw [hge i o ri g1 q1 q2 q3,decide_eq_true (by omega)];simp)
        rw [show q+(j - q)=j by omega] at this
        exact this.symm
    rw [e1,e2,hlike.2.1]
  have hrec:∀ (i:Nat) (o:Oper) (ri:Rec),ops[i]? = some o->rs[i]? = some ri->Tok.zero ∉ ri.born /\ Tok.zero ∉ ri.gone:=fun i o ri h1 h2=>by
    obtain ⟨ri',si,si',g1,g2,_,_⟩:=hrun.at 0 i o (by simpa using h1)
    rw [h2] at g1;cases g1
    have:=pvStep_ok g2
    exact ⟨fun e=>(by obtain ⟨x,j,e',_⟩:=this.born _ e;cases e'),fun e=>this.gone _ e rfl⟩
  have hOS:∀ t,t=.zero \/ t∈rc.toks->(fold S ops.toList rs 0 st0).O t=sj.O t:=fun t ht=>by
    rw [hlike.2.2.1]
    refine fold_agree (view_O t) ops.toList rs 0 _ _ rfl fun i o ri h1 h2=>?_
    rw [Nat.zero_add]
    by_cases e:S i=decide (i < j)
    · exact .inl e
    · refine .inr fun hbg=>?_
      rcases ht with rfl | ht
      · have:=hrec i o ri (by simpa using h1) h2
        rcases hbg with hbg | hbg
        · exact this.1 hbg
        · exact this.2 hbg
      · have hm : t ∈ ri.toks := by
          unfold Rec.toks
          rcases hbg with hbg | hbg <;> simp [hbg]
        rcases hcmp i o ri (by simpa using h1) h2 e with ⟨_,_,ha⟩ | ⟨_,_,ha⟩
        · exact ha.toks t hm ht
        · exact ha.toks t ht hm
  have hfrS:∀ x,(∀ i oi,ops[i]? = some oi->oi.dst=some x->S i=decide (i < j))->hasN (fold S ops.toList rs 0 st0).fr x=hasN sj.fr x:=fun x hx=>by
    rw [hlike.2.2.2]
    refine fold_agree (view_fr x) ops.toList rs 0 _ _ rfl fun i o ri h1 h2=>?_
    rw [Nat.zero_add]
    by_cases e:o.dst=some x
    · exact .inl (hx i o (by simpa using h1) e)
    · exact .inr e
  have hself:∀ x,oj.dst=some x -> ∀ i oi,ops[i]? = some oi->oi.dst=some x->S i=decide (i < j):=fun x hx i oi hoi hdi=>by
    have e:i=j:=by
      by_cases e:i=j
      · exact e
      · exact (hc.dist i j oi oj hoi hoj e x hdi hx).elim
    subst e
    rw [hj];simp
  let A:Nat->Prop:=fun t=>(∀ i oi,ops[i]? = some oi->oi.dst=some t->S i=decide (i < j)) /\ oj.dst≠some t
  have hAcl:∀ t,A t -> ∀ j' w ag ls,sj.φ t=.spec j' w ag ls->A j':=fun t ht j' want ag ls hs=>by
    rw [hlike.1] at hs
    by_cases hex:∃ i oi,ops[i]? = some oi /\ oi.dst=some t /\ i < j
    · obtain ⟨i,oi,hoi,hdi,hij⟩:=hex
      obtain ⟨ri,si,si',g1,g2,g3,_⟩:=hrun.at 0 i oi (by simpa using hoi)
      have hoki:=pvStep_ok g2
      have e:(fold (fun i=>decide (i < j)) ops.toList rs 0 st0).φ t=ri.val:=by
        have:=fold_add (view_φ t) (S:=fun k=>decide (k < j)&&decide (k≠i)) (S':=fun k=>decide (k < j)) (j:=i) (oj:=oi) (rj:=ri) (by simp) (by simpa using hij) (fun k hk=>by simp [hk]) ops.toList rs 0 i st0 (by omega) (by simpa using hoi) g1 (fun _ k ok rk hk h1 h2 h3 h4=>hc.dist i k oi ok hoi (by simpa using h1) (by omega) t hdi h4)
        rw [this]
        show putP _ oi.dst ri.val t=_
        rw [hdi,putP_at]
      rw [e] at hs
      obtain ⟨hgs,_⟩:=hoki.spec j' want ag ls hs
      obtain ⟨i0,b0,og,q1,q2,q3⟩:=gslot_some hgs
      have hSi:S i=true:=by rw [ht.1 i oi hoi hdi];simpa using hij
      have hw0:=hc.grd i oi hoi i0 b0 q1
      have hS0:S i0=true:=waits_in hcl (i+1) i (by omega) oi hoi (hcl i oi hoi hSi) i0 hw0
      have hi0:i0 < i:=by
        refine waits_in (S:=fun k=>decide (k < i)) (fun k ok hk1 hk2 e he1 he2=>?_) (i+1) i (by omega) oi hoi (fun e he1 he2=>?_) i0 hw0 |> fun h=>by simpa using h
        · have:=hc.on k ok hk1 e he1 he2
          simp at hk2 ⊢;omega
        · have:=hc.on i oi hoi e he1 he2
          simpa using this
      refine ⟨fun k ok hok hdk=>?_,fun e=>?_⟩
      · have : k = i0 := by
          by_cases e:k=i0
          · exact e
          · exact (hc.dist k i0 ok og hok q2 e j' hdk q3).elim
        subst this
        rw [hS0,decide_eq_true (by omega)]
      · exact hc.dist i0 j og oj q2 hoj (by omega) j' q3 e
    · exfalso
      have e:(fold (fun i=>decide (i < j)) ops.toList rs 0 st0).φ t=st0.φ t:=fold_keep (view_φ t) ops.toList rs 0 st0 fun i o ri h1 h2 h3 h4=>hex ⟨i,o,by simpa using h1,h4,by simpa using h3⟩
      rw [e] at hs
      exact hst0 t j' want ag ls hs
  have hlooks:∀ t,t∈oj.looksAt ops->A t:=fun t ht=>by
    refine ⟨fun i oi hoi hdi=>?_,fun e=>hc.self j oj hoj t e ht⟩
    by_cases e:S i=decide (i < j)
    · exact e
    · exfalso
      obtain ⟨ri,si,si',g1,g2,g3,_⟩:=hrun.at 0 i oi (by simpa using hoi)
      rcases hcmp i oi ri hoi g1 e with ⟨_,_,ha⟩ | ⟨_,_,ha⟩
      · exact (ha.looks t hdi).1 ht
      · exact ha.back t hdi ht
  have hmem:∀ t,hasN (spOf ops S) t=true->oj.dst≠some t:=fun t ht e=>by
    obtain ⟨i,o,h1,h2,h3⟩:=mem_spOf.1 ht
    have:=hself t e i o h1 h3
    rw [h2] at this
    have hij:i < j:=by simpa using this.symm
    exact hc.dist i j o oj h1 hoj (by omega) t h3 e
  have hM:MRel F g ⟨(fold S ops.toList rs 0 st0).φ,(fold S ops.toList rs 0 st0).L,(fold S ops.toList rs 0 st0).O,sj.kn.filter (fun p=>decide (A p.1)),spOf ops S,(fold S ops.toList rs 0 st0).fr⟩ (tm a) w:=by
    refine h.rel.knMore (st:=mkSt ops S rs st0) fun t b hk=>?_
    rw [knows_filter (A:=fun t=>decide (A t))] at hk
    split at hk
    · rename_i hA
      exact facts (A:=A) (X:=mkSt ops S rs st0) (φ:=sj.φ) h.rel.slots (fun t ht=>hφS t ht.1) hAcl (hknok (by rw [hkn0];exact .nil)) t b (of_decide_eq_true hA) hk
    · cases hk
  have hF:Foot oj.dst rc sj ⟨(fold S ops.toList rs 0 st0).φ,(fold S ops.toList rs 0 st0).L,(fold S ops.toList rs 0 st0).O,sj.kn.filter (fun p=>decide (A p.1)),spOf ops S,(fold S ops.toList rs 0 st0).fr⟩:=by
    refine ⟨hLS,hLD,fun t ht=>hOS t (.inr ?_),hOS _ (.inl rfl),fun x hx=>hfrS x (hself x hx),fun x hx=>Bool.eq_false_iff.2 fun e=>hmem x e hx,fun x hx=>?_⟩
    · unfold Rec.toks
      simp [ht]
    · obtain ⟨hx1,hx2⟩:=hasN_out.1 (hasN_iff.2 hx)
      by_cases hex:∃ i oi,ops[i]? = some oi /\ oi.dst=some x /\ i < j /\ S i=false
      · obtain ⟨i,oi,hoi,hdi,hij,hSi⟩:=hex
        obtain ⟨ri,si,si',g1,g2,g3,_⟩:=hrun.at 0 i oi (by simpa using hoi)
        rcases hcmp i oi ri hoi g1 (by rw [hSi,decide_eq_true hij];simp) with ⟨_,_,ha⟩ | ⟨h1,_,ha⟩
        · exact (ha.looks x hdi).2
        · omega
      · refine hok.ment x (hasN_iff.1 (hasN_out.2 ⟨?_,hx2⟩))
        rw [<-hfrS x fun i oi hoi hdi=>?_]
        · exact hx1
        · rcases Nat.lt_trichotomy i j with hlt | heq | hgt
          · rw [decide_eq_true hlt]
            cases hSi:S i with
            | true=>rfl
            | false=>exact (hex ⟨i,oi,hoi,hdi,hlt,hSi⟩).elim
          · subst heq
            rw [hj];simp
          · rw [decide_eq_false (by omega)]
            cases hSi:S i with
            | false=>rfl
            | true=>
              obtain ⟨ri,si,si',g1,g2,g3,_⟩:=hrun.at 0 i oi (by simpa using hoi)
              have:=fold_out (S:=S) ops.toList rs 0 i oi ri st0 (by simpa using hoi) g1 (by rw [Nat.zero_add];exact hSi) hdi
              rw [show hasN (fold S ops.toList rs 0 st0).fr x=true from hx1] at this
              cases this
  obtain ⟨s',g1,g2,g3⟩:=pvStep_at (A:=A) (X:=⟨(fold S ops.toList rs 0 st0).φ,(fold S ops.toList rs 0 st0).L,(fold S ops.toList rs 0 st0).O,sj.kn.filter (fun p=>decide (A p.1)),spOf ops S,(fold S ops.toList rs 0 st0).fr⟩) ⟨fun t ht=>hφS t ht.1,fun t ht=>by rw [knows_filter (A:=fun t=>decide (A t)),decide_eq_true ht],hAcl⟩ hlooks (fun x hx=>⟨by rw [knows_filter (A:=fun t=>decide (A t)),decide_eq_false fun h=>h.2 hx],fun h=>h.2 hx⟩) hF hstep
  refine pvStep_sound (Q:=Q) hE ⟨h.size,h.defers,hM⟩ hd g1 fun a' w' g' rc' st' hC hAR hl=>?_
  injection hC with hC
  obtain ⟨e1,e2⟩:=Prod.mk.inj hC
  have e1:=e1.symm
  have e2:=e2.symm
  subst e1;subst e2
  refine hN a' w' g' ⟨hAR.size,hAR.defers,?_⟩ hl
  have hj':S' j=true:=(hS' j).2 (.inr rfl)
  have hSS:∀ i,i≠j->S' i=S i:=fun i hi=>by
    rw [Bool.eq_iff_iff,hS']
    exact ⟨fun h=>h.resolve_right hi,.inl⟩
  have hadd:∀ {β:Type} {f:PSt->β} {T:Option Nat->Rec->Prop},View f T->(T oj.dst rc -> ∀ i o ri,j < i->ops[i]? = some o->rs[i]? = some ri->S i=true -> ¬ T o.dst ri)->f (fold S' ops.toList rs 0 st0)=f (appR oj.dst rc (fold S ops.toList rs 0 st0)):=fun hf hT=>
    fold_add hf hj hj' hSS ops.toList rs 0 j st0 (by omega) (by simpa using hoj) hrc fun ht i o ri h1 h2 h3 h4=>hT ht i o ri h1 (by simpa using h2) h3 (by rw [Nat.zero_add] at h4;exact h4)
  have hap:∀ i o ri,j < i->ops[i]? = some o->rs[i]? = some ri->S i=true->Apart ops oj o rc ri:=fun i o ri h1 h2 h3 h4=>hc.apart j i oj o rc ri h1 hoj h2 hrc h3 (hnot i o h2 h4)
  have f1:∀ t,(fold S' ops.toList rs 0 st0).φ t=putP (fold S ops.toList rs 0 st0).φ oj.dst rc.val t:=fun t=>hadd (view_φ t) fun ht i o ri h1 h2 h3 h4 h5=>hc.dist j i oj o hoj h2 (by omega) t ht h5
  have f2:∀ k,(fold S' ops.toList rs 0 st0).L k=putL (fold S ops.toList rs 0 st0).L rc.loc k:=fun k=>hadd (view_L k) fun ht i o ri h1 h2 h3 h4 h5=>((hap i o ri h1 h2 h3 h4).keys k ht).1 h5
  have f3:∀ t,(fold S' ops.toList rs 0 st0).O t=putO (fold S ops.toList rs 0 st0).O rc.born rc.gone t:=fun t=>hadd (view_O t) fun ht i o ri h1 h2 h3 h4 h5=>(hap i o ri h1 h2 h3 h4).toks t (by unfold Rec.toks;rcases ht with ht | ht <;> simp [ht]) (by unfold Rec.toks;rcases h5 with h5 | h5 <;> simp [h5])
  have f4:∀ x,hasN (fold S' ops.toList rs 0 st0).fr x=hasN (outN oj.dst (fold S ops.toList rs 0 st0).fr) x:=fun x=>hadd (view_fr x) fun ht i o ri h1 h2 h3 h4 h5=>hc.dist j i oj o hoj h2 (by omega) x ht h5
  refine hAR.rel.relike (g2.1.trans (funext fun t=>(f1 t).symm)) (g2.2.1.trans (funext fun t=>(f2 t).symm)) (g2.2.2.1.trans (funext fun t=>(f3 t).symm)) (fun x hx=>?_) (fun i t want ag ls hs=>?_) fun t b hk=>by cases hk
  · rw [g2.2.2.2 x]
    have hx':hasN (fold S' ops.toList rs 0 st0).fr x=true:=hx
    rw [f4 x] at hx'
    exact hx'
  · have hs':(fold S' ops.toList rs 0 st0).φ i=.spec t want ag ls:=hs
    rw [f1 i] at hs'
    have hst:s'.φ i=.spec t want ag ls:=by rw [g2.1];exact hs'
    have hsp:=hAR.rel.sp i t want ag ls hst
    show hasN (spOf ops S') t=true
    rcases g3 t hsp with h1 | h1
    · obtain ⟨i,o,q1,q2,q3⟩:=mem_spOf.1 (show hasN (spOf ops S) t=true from h1)
      exact mem_spOf.2 ⟨i,o,q1,(hS' i).2 (.inl q2),q3⟩
    · obtain ⟨i0,b0,og,q1,q2,q3⟩:=gslot_some h1
      exact mem_spOf.2 ⟨i0,og,q2,(hS' i0).2 (.inl (hdone i0 (hc.grd j oj hoj i0 b0 q1))),q3⟩
end
section
variable {E : Env} {F : Fr} {R : Type} {r : R}
section
variable {ops : Array Oper} {listed : Array Bool}
theorem getD_tf (i:Nat) (hi:i < listed.size):listed.getD i true=listed.getD i false:=by
 rw [Array.getD_eq_getD_getElem?,Array.getD_eq_getD_getElem?]
 simp [hi]
theorem ready_mem {i:Nat}:i∈Region.ready .any ops listed↔i < ops.size /\ listed.getD i true=false /\ ∃ o,ops[i]? = some o /\ ∀ e∈o.after.toList,Region.binds .any e=true->listed.getD e.on false=true:=by
 unfold Region.ready
 rw [List.mem_filter,List.mem_range]
 refine and_congr_right fun hi=>?_
 rw [Bool.and_eq_true,Bool.not_eq_true']
 refine and_congr_right fun _=>?_
 have ho:ops[i]? = some ops[i]:=by simp [hi]
 rw [ho]
 rw [Option.map_some,Option.getD_some,<- Array.all_toList,List.all_eq_true]
 constructor
 ·intro h
  refine ⟨_,rfl,fun e he hb=>?_⟩
  have:=h e he
  rw [hb] at this
  simpa using this
 ·rintro ⟨o,h1,h2⟩ e he
  injection h1 with h1
  subst h1
  cases hb:Region.binds .any e with
  | false=>rfl
  | true=>simpa using h2 e he hb
theorem ready_nil {rs:List Rec} (hc:Chk ops rs) (hs:listed.size=ops.size) (h:Region.ready .any ops listed=[]):∀ (n j:Nat),j < n->j < ops.size->listed.getD j false=true
 | 0,_,hn,_=>by omega
 | n+1,j,hn,hj=>by
  cases hl:listed.getD j false with
  | true=>rfl
  | false=>
   exfalso
   have ho:ops[j]? = some ops[j]:=by simp [hj]
   have:j∈Region.ready .any ops listed:=ready_mem.2 ⟨hj,by rw [getD_tf j (by omega)];exact hl,_,ho,fun e he hb=>by
    have hlt:=hc.on j _ ho e he hb
    exact ready_nil hc hs h n e.on (by omega) (by omega)⟩
   rw [h] at this
   cases this
theorem setB_get {i k:Nat} (hi:i < listed.size):(listed.setIfInBounds i true).getD k false=true↔listed.getD k false=true \/ k=i:=by
 rw [Array.getD_eq_getD_getElem?,Array.getD_eq_getD_getElem?,Array.getElem?_setIfInBounds]
 by_cases e:i=k
 ·subst e
  simp [hi]
 ·rw [if_neg e]
  exact ⟨.inl,fun h=>h.resolve_right fun e'=>e e'.symm⟩
end
theorem draw_walk (hE:E.okF F) {ops:Array Oper} {M:Nat->Prop} {g0:Gh} {a0:Act} {w0:World} {Q:Exit->Act->World->Prop} (hd:∀ o∈ops.toList,∀ x,o.dst=some x->x < F.n /\ M x) {rs:List Rec} {st0 s:PSt} (hrun:Run E ops ops.toList st0 rs s) (hc:Chk ops rs) (hst0:∀ i t want ag ls,st0.φ i≠.spec t want ag ls) (hkn0:st0.kn=[])
    (hQ:∀ S a' w' g',(∀ i,i < ops.size->S i=true)->AR F g' (mkSt ops S rs st0) a' w'->Lft M (fun _=>False) g0 a0 w0 g' a' w'->Q .normal a' w'):∀ (fuel:Nat) (U:List Nat) (listed:Array Bool) (g:Gh) (a:Act) (w:World),U.length<=fuel->listed.size=ops.size->(∀ i,i < ops.size->listed.getD i false=false->i∈U) ->
    (∀ j o,ops[j]? = some o->listed.getD j false=true -> ∀ e∈o.after.toList,Region.binds .any e=true->listed.getD e.on false=true)->AR F g (mkSt ops (fun i=>listed.getD i false) rs st0) a w->Lft M (fun _=>False) g0 a0 w0 g a w->wpAny E.P .any ops Q fuel listed a w
  | 0,U,listed,g,a,w,hU,hs,hm,hcl,h,hl=>by
    have hall:∀ i,i < ops.size->listed.getD i false=true:=fun i hi=>by
      cases e:listed.getD i false with
      | true=>rfl
      | false=>
        have:=hm i hi e
        have hU:U=[]:=List.eq_nil_of_length_eq_zero (by omega)
        rw [hU] at this
        cases this
    refine wpAny_done ?_ (hQ _ a w g hall h hl) 0
    refine List.eq_nil_iff_forall_not_mem.2 fun i hi=>?_
    obtain ⟨h1,h2,_⟩:=ready_mem.1 hi
    rw [getD_tf i (by omega),hall i h1] at h2
    cases h2
  | fuel+1,U,listed,g,a,w,hU,hs,hm,hcl,h,hl=>by
    refine ⟨fun hr=>hQ _ a w g (fun i hi=>ready_nil hc hs hr (i+1) i (by omega) hi) h hl,fun i hi=>?_⟩
    obtain ⟨h1,h2,o,ho,h3⟩:=ready_mem.1 hi
    have hS:listed.getD i false=false:=by rw [<-getD_tf i (by omega)];exact h2
    have hmem:o∈ops.toList:=List.mem_of_getElem? (i:=i) (by simpa using ho)
    have hw:Way E ops o a w (wpAny E.P .any ops Q fuel (listed.setIfInBounds i true)) Q:=
      draw_step hE hrun hc hst0 hkn0 (S:=fun i=>listed.getD i false) (S':=fun k=>(listed.setIfInBounds i true).getD k false) (j:=i) hS (fun k=>setB_get (by omega)) hcl ho h3 (fun x hx=>(hd o hmem x hx).1) h fun a' w' g' h' hl'=>by
        refine draw_walk hE hd hrun hc hst0 hkn0 hQ fuel (U.erase i) (listed.setIfInBounds i true) g' a' w' ?_ (by simpa using hs) (fun k hk hk'=>?_) (fun k ok hk hk' e he hb=>?_) h' (hl.trans (hl'.mono (fun x hx=>(hd o hmem x hx).2) fun _ h=>h))
        · have:=List.length_erase_of_mem (hm i h1 hS)
          omega
        · have hne : k ≠ i := fun e => by
            have:=(setB_get (listed:=listed) (i:=i) (k:=k) (by omega)).2 (.inr e)
            rw [this] at hk'
            cases hk'
          refine (List.mem_erase_of_ne hne).2 (hm k hk (Bool.eq_false_iff.2 fun e=>?_))
          have:=(setB_get (listed:=listed) (i:=i) (k:=k) (by omega)).2 (.inl e)
          rw [this] at hk'
          cases hk'
        · refine (setB_get (by omega)).2 (.inl ?_)
          rcases (setB_get (by omega)).1 hk' with h4 | h4
          · exact hcl k ok hk h4 e he hb
          · subst h4
            rw [ho] at hk
            cases hk
            exact h3 e he hb
    unfold wpOp
    rw [ho]
    show if Region.wanted o (yielded ops a.tmps) then _ else _
    unfold Way at hw
    split
    · rename_i hy
      rw [if_pos hy] at hw
      exact .inl hw
    · rename_i hy
      rw [if_neg hy] at hw
      exact hw
theorem draw_sound (hE:E.okF F) {id:Nat} {ops:Array Oper} {M:Nat->Prop} {g:Gh} {st:PSt} {a:Act} {w:World} {K:PSt->Option R} {Q:Exit->Act->World->Prop} (hd:∀ o∈ops.toList,∀ x,o.dst=some x->x < F.n /\ M x)
    (h:AR F g (sanSt (madeBy ops.toList) st) a w) (hv:pvOps E ops ops.toList [] (sanSt (madeBy ops.toList) st) (fun tr s=>match E.P.follows .mixedOrders&&okDraw ops tr with | true=>K s | false=>none)=some r)
    (hQ:∀ a' w' g' st',K st'=some r->AR F g' st' a' w'->Lft M (fun _=>False) g a w g' a' w'->Q .normal a' w'):(Code.region id ops true).wp E.P Q a w:=by
  obtain ⟨rs,s,hC,hrun⟩:=pvOps_run _ _ _ _ hv
  rw [List.nil_append] at hC
  split at hC
  · rename_i hb
    rw [Bool.and_eq_true] at hb
    have hc:=okDraw_chk (by rw [hrun.len];simp) hb.2
    have hst0:∀ i t want ag ls,(sanSt (madeBy ops.toList) st).φ i≠.spec t want ag ls:=fun i t want ag ls e=>by
      have e:sanP (madeBy ops.toList) (st.φ i)=.spec t want ag ls:=e
      unfold sanP at e
      split at e <;> first | (cases e;done) | (split at e <;> cases e)
    refine wp_region_any hb.1 (draw_walk hE (g0:=g) (a0:=a) (w0:=w) hd hrun hc hst0 rfl (fun S a' w' g' hall hAR hl=>?_) ops.size (List.range ops.size) (Array.replicate ops.size false) g a _ (by simp) (by simp) (fun i hi _=>List.mem_range.2 hi) (fun j o ho hj=>?_) ?_ ?_)
    · obtain ⟨g1,g2,g3⟩:=hrun.last 0
      have hlk:Like s (fold S ops.toList rs 0 (sanSt (madeBy ops.toList) st)):=g1.trans (fold_like (like_refl _) fun i hi=>by rw [Nat.zero_add,hall i (by simpa using hi)])
      refine hQ a' w' g' s hC ⟨hAR.size,hAR.defers,?_⟩ hl
      refine hAR.rel.relike (X:=s) hlk.1.symm hlk.2.1.symm hlk.2.2.1.symm (fun x hx=>?_) (g3 fun i t want ag ls hs=>(hst0 i t want ag ls hs).elim) fun t b hk=>?_
      · show hasN (fold S ops.toList rs 0 (sanSt (madeBy ops.toList) st)).fr x=true
        rw [<-hlk.2.2.2 x];exact hx
      · exact facts (A:=fun _=>True) (X:=mkSt ops S rs (sanSt (madeBy ops.toList) st)) (φ:=s.φ) hAR.rel.slots (fun t _=>by rw [hlk.1];rfl) (fun _ _ _ _ _ _ _=>trivial) (g2 .nil) t b trivial hk
    · exfalso
      rw [Array.getD_eq_getD_getElem?] at hj
      by_cases hlt:j < ops.size <;> simp [hlt] at hj
    · have e : fold (fun i => (Array.replicate ops.size false).getD i false) ops.toList rs 0 (sanSt (madeBy ops.toList) st) = sanSt (madeBy ops.toList) st := fold_none _ _ _ _ fun i _ => by
        rw [Array.getD_eq_getD_getElem?]
        by_cases hlt:i < ops.size <;> simp [hlt]
      refine ⟨h.size,h.defers,h.rel.drew.relike (by unfold mkSt;rw [e]) (by unfold mkSt;rw [e]) (by unfold mkSt;rw [e]) (fun x hx=>?_) (fun i t want ag ls hs=>?_) fun t b hk=>by cases hk⟩
      · unfold mkSt at hx
        rw [e] at hx
        exact hx
      · unfold mkSt at hs
        rw [e] at hs
        exact (hst0 i t want ag ls hs).elim
    · exact ⟨fun _ _=>rfl,fun _ _=>rfl,⟨fun a u hc hC=>⟨hc,hC⟩,fun _ _ _ q=>q⟩,fun _ _ _ _=>rfl⟩
  · cases hC
end
end Pv
end Go.Proofs.YtifbhefbhlbofaaDoor
