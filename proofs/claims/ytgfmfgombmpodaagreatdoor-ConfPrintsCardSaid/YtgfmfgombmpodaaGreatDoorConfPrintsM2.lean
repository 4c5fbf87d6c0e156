/- Texts of this claim, one behind the other. -/
import Derived.Test.YtgfmfgombmpodaaGreatDoorConfPrintsM1
import Derived.Calls
import Derived.Laws.Externs
set_option maxRecDepth 100000
namespace Go.Proofs.YtgfmfgombmpodaaGreatDoor
namespace Pv
set_option linter.unusedVariables false
section
variable {E : Env} {F : Fr} {g g' : Gh} {st : PSt} {a : Act} {w w' : World} {o : Oper} {R : Type} {C : Upd -> Option R} {r : R} {tmf : Nat -> Value} {O : Tok -> Bool} {P : Program} {u : Upd} {v : Value}
theorem push_all:∀ (l:List Int) (acc:ByteArray),(l.foldl (fun r n=>r.push (UInt8.ofNat n.toNat)) acc).data.toList=acc.data.toList++l.map fun n=>UInt8.ofNat n.toNat
 | [],acc=>by simp
 | x::l,acc=>by
  rw [List.foldl_cons,push_all l]
  simp [ByteArray.push]
theorem byte_back {x:Int} (h:(Lit.int .u8 x).wf=true):byteI (UInt8.ofNat x.toNat)=x:=by
 simp [Lit.wf,IntKind.min,IntKind.max,IntKind.signed,IntKind.bits] at h
 unfold byteI
 have:(UInt8.ofNat x.toNat).toNat=x.toNat:=by
  rw [UInt8.toNat_ofNat']
  omega
 omega
theorem tailP_slice {p:PV} {u:Value} {e:Ty} {l:List e.D} (hs:isStrP p=false) (h:tailP e p=some l) (hr:RelP F g w O tmf u p):RepD w g.C (.sl e) l [u]:=by
 rcases tailP_rel h hr with ⟨s,hsu,rfl,hl,_⟩ | hr'
 ·exfalso
  unfold tailP at h
  cases hq:strP p with
  | some q=>
   unfold strP at hq
   split at hq
   ·cases hs
   ·cases hq
  | none=>
   rw [hq] at h
   simp only at h
   split at h
   ·rename_i e' l' hsl
    obtain ⟨_,_,_,e1,_⟩:=slP_rep hsl hr
    rw [hsu] at e1;simp at e1
   ·split at h
    ·have hy':u=.slice none 0 0:=hr
     rw [hsu] at hy';cases hy'
    ·cases h
 ·exact hr'
theorem bytes_run {src dst e:TypeId} {l:List Int} {u:Value} (hs:P.underlying src=some (.slice e)) (he:P.underlying e=some (.int .u8)) (hd:P.underlying dst=some .string) {C:Com} (hr:RepD w C (.sl (.int .u8)) l [u]) :
  ∃ s:ByteArray,(convert src dst u).run P w=.ok (.string s) w /\ bytesL s=l /\ s.size<=maxLen:=by
 have hr0:=hr
 obtain ⟨xa,xn,xc,x1,x2,x3,x4,x5⟩:=hr0
 have eu:u=.slice xa xn xc:=by simpa using x1
 subst eu
 have hln:l.length=xn:=x2
 cases xa with
 | none=>
  have h0:l=[]:=by
   cases l with
   | nil=>rfl
   | cons x l=>
    obtain ⟨ad,us,e1,_⟩:=x5 0 x rfl
    cases e1
  subst h0
  refine ⟨ByteArray.empty,?_,rfl,by unfold maxLen;simp⟩
  exact run_convert_bytes_nil w src e hs he xn xc dst hd
 | some ad=>
  obtain ⟨news,n1,n2,n3,n4⟩:=slice_cells (e:=.int .u8) (by show 0 < 1;omega) hr
  have hwf:∀ x∈l,(Lit.int .u8 x).wf=true:=fun x hx=>by
   obtain ⟨i,hi⟩:=List.mem_iff_getElem?.1 hx
   exact (n4 i x hi).2
  have hnews:news=l.map (Value.int .u8):=by
   have hnl:news.length=l.length:=by rw [n1];show List.length (α:=Int) l*1=_;omega
   apply List.ext_getElem?
   intro i
   by_cases hi:i < l.length
   ·have hrow:(news.drop (i*1)).take 1=[.int .u8 l[i]]:=(n4 i l[i] (List.getElem?_eq_getElem hi)).1
    have h1:=congrArg (fun q:List Value=>q[0]?) hrow
    simp only [List.getElem?_take,List.getElem?_drop] at h1
    simp at h1
    rw [List.getElem?_map,List.getElem?_eq_getElem hi]
    simp
    exact h1
   ·rw [List.getElem?_eq_none (by omega),List.getElem?_eq_none (by simpa using hi)]
  have hload:(loadCells ad xn).run P w=.ok (l.map (Value.int .u8)).toArray w:=by
   have:=run_loadCells_list (P:=P) w ad news n2
   rw [hnews] at this
   rw [<-hln]
   simpa using this
  refine ⟨l.foldl (fun r n=>r.push (UInt8.ofNat n.toNat)) ByteArray.empty,?_,?_,?_⟩
  ·rw [run_convert_bytes_string w src dst e _ xn xc hs he hd,run_bytesToString w _ xn xc l hload]
  ·unfold bytesL
   rw [push_all]
   simp only [List.map_append,List.map_map]
   have:(ByteArray.empty.data.toList.map byteI)=[]:=rfl
   rw [this,List.nil_append]
   have h2:∀ x∈l,(byteI ∘ fun n:Int=>UInt8.ofNat n.toNat) x=x:=fun x hx=>byte_back (hwf x hx)
   exact (List.map_congr_left h2).trans (List.map_id' l)
  ·have h3:=congrArg List.length (push_all l ByteArray.empty)
   have h4:ByteArray.empty.data.toList=[]:=rfl
   rw [h4] at h3
   simp at h3
   have:(l.foldl (fun r n=>r.push (UInt8.ofNat n.toNat)) ByteArray.empty).size=l.length:=by
    rw [<-h3]
   rw [this]
   exact hln ▸ (by omega)
theorem out_bytes (h:MRel F g st (tm a) w) (e:TypeId) {s:ByteArray} (hz:s.size<=maxLen) :
  OutR F g st w (Upd.v (.w false [.d (.sl (.int .u8)) (bytesL s)])) (.slice (some ⟨w.heap.size,0,none⟩) s.size (grownCap w s.size 0 e)) { g with C:=comR g.C w.heap.size s.size } (Lib.bytesWorld w e s):=by
 have hnew:=Lib.bytesWorld_at_new w e s
 have hsz:=Lib.bytesWorld_size w e s
 have hge:=grownCap_ge w s.size 0 e
 have hle:=grownCap_le_maxLen w s.size 0 e hz
 have hlen:(bytesL s).length=s.size:=bytes_len s
 have G:Grew w g.C (Lib.bytesWorld w e s) (comR g.C w.heap.size s.size):=by
  refine ⟨by omega,fun b hb=>Lib.bytesWorld_at_old w e s b hb,rfl,rfl,rfl,fun b o hlt=>⟨fun hc=>hc.resolve_right fun ⟨e,_⟩=>by omega,.inl⟩,fun b o hc=>?_⟩
  rcases hc with hc | ⟨rfl,_⟩
  ·have:=h.fr.lim b o hc;omega
  ·omega
 have hrow:∀ (i:Nat) (y:(Ty.int .u8).D),gt (α:=(Ty.int .u8).D) (bytesL s) i=some y->RepD (Lib.bytesWorld w e s) (comR g.C w.heap.size s.size) (.int .u8) y (((Lib.bytesCells w e s).toList.drop (i*(Ty.int .u8).size)).take (Ty.int .u8).size):=fun i y hy=>by
  have hy':(bytesL s)[i]? = some y:=hy
  rw [bytes_get] at hy'
  obtain ⟨c,hc,rfl⟩:=Option.map_eq_some_iff.1 hy'
  have hi:i < s.size:=by
   have:(bytesL s)[i]? = some (byteI c):=by rw [bytes_get,hc];rfl
   have:=(List.getElem?_eq_some_iff.1 this).1
   rwa [bytes_len] at this
  refine ⟨?_,byte_wf c⟩
  have e1:(Ty.int .u8).size=1:=rfl
  rw [e1,Nat.mul_one]
  have hcell:(Lib.bytesCells w e s).toList[i]? = some (.int .u8 (byteI c)):=by
   rw [Array.getElem?_toList]
   have hci:s.data[i]? = some c:=by
    have:s[i]? = s.data[i]?:=by simp only [getElem?_def];rfl
    rw [<-this];exact hc
   unfold Lib.bytesCells
   rw [Array.getElem?_append_left (by simpa using hi)]
   simp [hci,byteI]
  rw [List.drop_eq_getElem_cons (List.getElem?_eq_some_iff.1 hcell).1]
  simp [(List.getElem?_eq_some_iff.1 hcell).2]
 refine OutR.grew h G (fun _ _ _=>rfl) (fun _=>.inl rfl) rfl (fun tmf=>rel_leaf.2 ?_) (fun _ _ _ _ e=>by cases e) (fun _ _ hm=>by cases hm) h.blk0 (fun _ _ hm=>by cases hm) (fun _ _ _ hm=>by cases hm) (fun _ _ hm=>by cases hm)
 have hlen':List.length (α:=(Ty.int .u8).D) (bytesL s)=s.size:=hlen
 have e1:(Ty.int .u8).size=1:=rfl
 have:=repD_row (w:=Lib.bytesWorld w e s) (C:=comR g.C w.heap.size s.size) (e:=.int .u8) (l:=bytesL s) (B:=w.heap.size) (cap:=grownCap w s.size 0 e) hnew hle (by rw [hlen'];exact hge) (fun o ho=>.inr ⟨rfl,by rw [hlen',e1] at ho;omega⟩) hrow
 rw [hlen'] at this
 exact this
theorem freeze_facts {b n:Nat} {cur:Array Value} {T:TypeId} (hb:w.heap[b]? = some (.cells cur T (0,0))):(w.freeze ⟨b,n,none⟩ 1).heap[b]? = some (.cells cur T (n,n+1)) /\ (∀ j,j≠b->(w.freeze ⟨b,n,none⟩ 1).heap[j]? = w.heap[j]?) /\ (w.freeze ⟨b,n,none⟩ 1).heap.size=w.heap.size /\
  (w.freeze ⟨b,n,none⟩ 1).os=w.os /\ (w.freeze ⟨b,n,none⟩ 1).tape=w.tape /\ (w.freeze ⟨b,n,none⟩ 1).output=w.output:=by
 unfold World.freeze
 rw [if_neg (by decide)]
 refine ⟨?_,fun j hj=>?_,?_,rfl,rfl,rfl⟩
 ·show (w.heap.modify b _)[b]? = _
  rw [Array.getElem?_modify,if_pos rfl,hb]
  rfl
 ·show (w.heap.modify b _)[j]? = _
  rw [Array.getElem?_modify,if_neg (fun e=>hj e.symm)]
 ·show (w.heap.modify b _).size=_
  simp
theorem out_rowB (h:MRel F g st (tm a) w) {d:Nat} (hd:st.L d=none) (e:TypeId) {s:ByteArray} (hz:s.size<=maxLen) :
  OutR F g st w ⟨.row d (List.length (α:=Int) (bytesL s)) false,[(d,[.d (.arr (List.length (α:=Int) (bytesL s)) (.int .u8)) (bytesL s)])],[],[]⟩ (.slice (some ⟨w.heap.size,0,none⟩) s.size (grownCap w s.size 0 e)) { g with ρ:=newRho g.ρ d w.heap.size } (Lib.bytesWorld w e s):=by
 have hnew:=Lib.bytesWorld_at_new w e s
 have hsz:=Lib.bytesWorld_size w e s
 have hge:=grownCap_ge w s.size 0 e
 have hle:=grownCap_le_maxLen w s.size 0 e hz
 have hlen:List.length (α:=Int) (bytesL s)=s.size:=bytes_len s
 have G:Grew w g.C (Lib.bytesWorld w e s) g.C:=by
  refine ⟨by omega,fun b hb=>Lib.bytesWorld_at_old w e s b hb,rfl,rfl,rfl,fun b o hlt=>Iff.rfl,fun b o hc=>?_⟩
  have:=h.fr.lim b o hc;omega
 have hb:w.heap.size >= F.w0.heap.size:=h.fr.size
 refine OutR.grew h G (fun k _ _=>rfl) (fun k=>?_) rfl (fun tmf=>?_) (fun _ _ _ _ e=>by cases e) (fun k l hm=>?_) h.blk0 (fun k b hm=>by cases hm) (fun k k' b hm=>by cases hm) (fun k l hm hn=>?_)
 ·by_cases hne:k=d
  ·subst hne;exact .inr ⟨hd,_,by simp;rfl⟩
  ·exact .inl (if_neg hne)
 ·refine ⟨grownCap w s.size 0 e,?_,by omega,hle,fun e=>by cases e⟩
  show _=Value.slice (some ⟨(newRho g.ρ d w.heap.size d).1,(newRho g.ρ d w.heap.size d).2,none⟩) _ _
  unfold newRho
  rw [if_pos rfl,hlen]
 ·have hm':(k,l)=_:=List.mem_singleton.1 hm
  cases hm'
  show LocOk F _ _ _ _ (newRho g.ρ d w.heap.size d)
  unfold newRho
  rw [if_pos rfl]
  have hsl:sizeLs [Leaf.d (.arr (List.length (α:=Int) (bytesL s)) (.int .u8)) (bytesL s)]=s.size:=by
   show List.length (α:=Int) (bytesL s)*1+0=_
   omega
  have hcs:(Lib.bytesCells w e s).size >= s.size:=by
   unfold Lib.bytesCells
   simp
  refine ⟨Lib.bytesCells w e s,(e,_),hnew,by rw [hsl];show 0+s.size<=_;omega,?_,fun o _ _=>⟨fun hc=>?_,.inl hb⟩,fun o ho=>.inl ?_⟩
  ·rw [hsl,List.drop_zero]
   refine repLs_single.2 ⟨rfl,?_,fun i y hy=>?_⟩
   ·rw [List.length_take,Array.length_toList]
    show min s.size _=List.length (α:=Int) (bytesL s)*1
    omega
   ·have hy':(bytesL s)[i]? = some y:=hy
    rw [bytes_get] at hy'
    obtain ⟨c,hc,rfl⟩:=Option.map_eq_some_iff.1 hy'
    have hi:i < s.size:=by
     have:(bytesL s)[i]? = some (byteI c):=by rw [bytes_get,hc];rfl
     have:=(List.getElem?_eq_some_iff.1 this).1
     rwa [bytes_len] at this
    refine ⟨?_,byte_wf c⟩
    have e1:(Ty.int .u8).size=1:=rfl
    rw [e1,Nat.mul_one]
    have hcell:((Lib.bytesCells w e s).toList.take s.size)[i]? = some (.int .u8 (byteI c)):=by
     rw [List.getElem?_take,if_pos hi,Array.getElem?_toList]
     have hci:s.data[i]? = some c:=by
      have:s[i]? = s.data[i]?:=by simp only [getElem?_def];rfl
      rw [<-this];exact hc
     unfold Lib.bytesCells
     rw [Array.getElem?_append_left (by simpa using hi)]
     simp [hci,byteI]
    rw [List.drop_eq_getElem_cons (List.getElem?_eq_some_iff.1 hcell).1]
    simp [(List.getElem?_eq_some_iff.1 hcell).2]
  ·have:=h.fr.lim _ _ hc
   omega
  ·rw [hsl] at ho
   have ho:o < 0+s.size:=ho
   show o < (Lib.bytesCells w e s).size
   omega
 ·have hm':(k,l)=_:=List.mem_singleton.1 hm
  cases hm'
  have e:newRho g.ρ d w.heap.size d=(w.heap.size,0):=if_pos rfl
  refine ⟨by show w.heap.size<=(newRho g.ρ d w.heap.size d).1;rw [e];exact Nat.le_refl _,fun t b ht=>by (cases ht),fun k' ls' hm2 _ _=>?_⟩
  have hm3:(k',ls')=_:=List.mem_singleton.1 hm2
  cases hm3
  rfl
theorem row_rep (h:MRel F g st tmf w) {k n σ m:Nat} {t:Bool} {ls:List Leaf} {ty:Ty} {l:(Ty.arr m ty).D} {l':List Int} {u:Value} (hL:st.L k=some (σ,ls)) (hone:oneAt ls 0=some (.d (.arr m ty) l)) (hcast:castD (t:=.sl ty) (.sl (.int .u8)) l=some l')
  (hu:RelP F g w O tmf u (.row k n t)) (hle:n<=l'.length):RepD w (fun _ _=>True) (.sl (.int .u8)) (l'.take n) [u]:=by
 have ht:ty=.int .u8:=by
  unfold castD at hcast
  split at hcast
  ·rename_i ht
   have:=teq_eq ht
   injection this
  ·cases hcast
 subst ht
 have el:l=l':=by
  unfold castD at hcast
  split at hcast
  ·injection hcast
  ·cases hcast
 have el2:l'=l:=el.symm
 subst el2
 obtain ⟨cap,rfl,h1,h2,_⟩:=hu
 obtain ⟨cur,T,hb,hsz,hrep,_⟩:=h.locals k σ ls hL
 unfold oneAt at hone
 cases ls with
 | nil=>cases hone
 | cons x r=>
  have hx:x=.d (.arr m (.int .u8)) l':=by
   have:some x=some (Leaf.d (.arr m (.int .u8)) l'):=hone
   injection this
  subst hx
  obtain ⟨c1,c2,ec,hr1,_⟩:=hrep
  obtain ⟨a1,a2,a3⟩:=hr1
  have a1:List.length (α:=Int) l'=m:=a1
  have e1:(Ty.int .u8).size=1:=rfl
  rw [e1,Nat.mul_one] at a2
  refine ⟨_,_,_,rfl,(List.length_take (α:=Int) (i:=n) (l:=l')).trans (by omega),h1,h2,fun i x hi=>?_⟩
  have hi':(List.take (α:=Int) n l')[i]? = some x:=hi
  rw [List.getElem?_take] at hi'
  split at hi'
  case isFalse=>cases hi'
  rename_i hin
  have hr:=a3 i x hi'
  rw [e1,Nat.mul_one] at hr
  obtain ⟨hr1,hr2⟩:=hr
  have hci:c1[i]? = some (.int .u8 x):=by
   have:=congrArg (fun q:List Value=>q[0]?) hr1
   simp only [List.getElem?_take,List.getElem?_drop] at this
   simpa using this
  refine ⟨_,[.int .u8 x],rfl,rfl,fun j v hj=>⟨?_,trivial⟩,⟨rfl,hr2⟩⟩
  have hj0:j=0:=by
   have:=(List.getElem?_eq_some_iff.1 hj).1
   simp at this
   omega
  subst hj0
  have hv:v=.int .u8 x:=by simpa using hj.symm
  subst hv
  rw [add_at,cell_at hb]
  have hcc:(c1++c2)[i]? = some (.int .u8 x):=by
   rw [List.getElem?_append_left (List.getElem?_eq_some_iff.1 hci).1];exact hci
  rw [<-ec,List.getElem?_take,List.getElem?_drop,Array.getElem?_toList] at hcc
  split at hcc
  case isFalse=>cases hcc
  rw [e1,Nat.mul_one,Nat.add_zero]
  exact hcc
theorem go_convert (h:MRel F g st (tm a) w) {src dst:TypeId} {x:Operand} (hop:o.op=.convert src dst x) (hv:pvU E o st (evK st.kn st.φ) C=some r):Goes E F g st a w o C r:=by
 simp only [pvU,hop] at hv
 have hx:=ev_rel h x
 split at hv
 ·rename_i k0 k k1 n hs hd he
  rw [he] at hx
  obtain ⟨ex,wx⟩:=rel_int hx
  have hr:(convert src dst (.int k1 n)).run E.P w=.ok (.int k (k.wrap n)) w:=by
   simp [convert,run_underlying hs,run_underlying hd,Conv.intToInt]
  refine goes_same h (v:=.int k (k.wrap n)) (p:=pint k (k.wrap n)) ?_ (mk_int (wf_wrap _ _)) (fun _ _ _ _ e=>by cases e) hv
  simp only [execOp,hop,Sem.run_bind]
  rw [ex,hr]
  rfl
 ·rename_i l hs hd he
  rw [he] at hx
  obtain ⟨s,ex,hb,hz⟩:=rel_str hx
  have hr:(convert src dst (.string s)).run E.P w=.ok (.string s) w:=by
   simp [convert,run_underlying hs,run_underlying hd]
  refine goes_same h (v:=.string s) (p:=pstr l) ?_ (mk_str hb hz) (fun _ _ _ _ e=>by cases e) hv
  simp only [execOp,hop,Sem.run_bind]
  rw [ex,hr]
  rfl
 ·rename_i e l hs hd he
  rw [he] at hx
  obtain ⟨s,ex,hb,hz⟩:=rel_str hx
  split at hv
  ·rename_i d hdst heu
   have hrun:=Lib.run_convert_string_bytes (P:=E.P) w src dst e s hs hd heu
   subst hb
   split at hv
   ·split at hv
    ·rename_i hfr
     have hln:List.length (α:=Int) (bytesL s)=s.size:=bytes_len s
     refine goes_val (v:=.slice (some ⟨w.heap.size,0,none⟩) s.size (grownCap w s.size 0 e)) (w':=Lib.bytesWorld w e s) (u:=⟨.row d (List.length (α:=Int) (bytesL s)) false,[(d,[.d (.arr (List.length (α:=Int) (bytesL s)) (.int .u8)) (bytesL s)])],[],[]⟩) ?_ (out_rowB h (h.fresh d hfr).2.2.2 e hz) hv
     simp only [execOp,hop,Sem.run_bind]
     rw [ex,hrun]
     rfl
    ·cases hv
   refine goes_val (v:=.slice (some ⟨w.heap.size,0,none⟩) s.size (grownCap w s.size 0 e)) (w':=Lib.bytesWorld w e s) (u:=Upd.v (.w false [.d (.sl (.int .u8)) (bytesL s)])) ?_ (out_bytes h e hz) hv
   simp only [execOp,hop,Sem.run_bind]
   rw [ex,hrun]
   rfl
  ·cases hv
 ·rename_i e0 e hs hd
  split at hv
  ·rename_i k e' l hsd heu hl
   have hsd:=Nat.eq_of_beq_eq_true hsd
   subst hsd
   unfold ownNow at hl
   split at hl
   ·rename_i k1 E1 e1 l1 he
    split at hl
    ·rename_i hO
     injection hl with hl1
     obtain ⟨hl2,hl3⟩:=Prod.mk.inj hl1
     clear hl1
     subst hl2
     cases hl3
     rw [Bool.and_eq_true] at hO
     rw [he] at hx
     obtain ⟨cs,hcs,hag⟩:=hx
     obtain ⟨hr,hown⟩:=repLs_single.1 hcs
     have hag:cs=[a.eval x]:=hag
     subst hag
     obtain ⟨v,hv1,hO2⟩:=hown hO.1
     injection hv1 with hv1
     rcases hO2 with ⟨p,_,hnil,_⟩ | ⟨b,cap,cur,hv2,hbk,hb,_⟩
     ·rw [hnil] at hO
      cases hO.2
     ·rw [hv2] at hv1
      obtain ⟨q1,q2,q3,q4,q5,q6⟩:=freeze_facts (w:=w) (n:=cur.size) hb
      have hrun:(convert src src (a.eval x)).run E.P w=.ok (a.eval x) (w.freeze ⟨b,cur.size,none⟩ 1):=by
       rw [hv1]
       have hsh:w.shape? b=some (E1,cur.size):=by simp [World.shape?,hb]
       have e00:e0=e:=by
        rw [hs] at hd
        injection hd with hd
        injection hd
       subst e00
       simp [convert,run_underlying hs,run_underlying heu,markStringish,hsh]
      refine goes_val (w':=w.freeze ⟨b,cur.size,none⟩ 1) (v:=a.eval x) (u:=⟨.w false [.d (.sl e') l],[],[],gone1 k1⟩) ?_ (out_mark h hO.1 hbk hr hb q1 q2 q3 q4 q5 q6) hv
      simp only [execOp,hop,Sem.run_bind]
      rw [hrun]
      rfl
    ·cases hl
   ·cases hl
  ·cases hv
 ·rename_i e k n tt hs hd he
  rw [he] at hx
  split at hv
  ·rename_i σ ls heu hL
   split at hv
   ·rename_i m ty l hone
    split at hv
    ·rename_i l' hcast
     obtain ⟨hle,hv⟩:=chk_some hv
     have hle:n<=List.length (α:=Int) l':=Nat.le_of_ble_eq_true hle
     obtain ⟨s,hrun,hb,hz⟩:=bytes_run (P:=E.P) hs heu hd (row_rep h hL hone hcast hx hle)
     refine goes_same h (v:=.string s) (p:=pstr (List.take (α:=Int) n l')) ?_ (mk_str hb hz) (fun _ _ _ _ e=>by cases e) hv
     simp only [execOp,hop,Sem.run_bind]
     rw [hrun]
     rfl
    ·cases hv
   ·cases hv
  ·cases hv
 ·rename_i e hs hd hnr
  split at hv
  ·rename_i l heu hst hl
   obtain ⟨s,hrun,hb,hz⟩:=bytes_run (P:=E.P) hs heu hd (tailP_slice hst hl hx)
   refine goes_same h (v:=.string s) (p:=pstr l) ?_ (mk_str hb hz) (fun _ _ _ _ e=>by cases e) hv
   simp only [execOp,hop,Sem.run_bind]
   rw [hrun]
   rfl
  ·cases hv
 ·rename_i k0 k k1 n hs hd he
  rw [he] at hx
  obtain ⟨ex,wx⟩:=rel_int hx
  have hr:(convert src dst (.int k1 n)).run E.P w=.ok (.float k (foI k n)) w:=by
   simp [convert,run_underlying hs,run_underlying hd,Conv.intToFloat,foI]
  refine goes_same h (v:=.float k (foI k n)) (p:=pflo k (foI k n)) ?_ (rel_leaf.2 rfl) (fun _ _ _ _ e=>by cases e) hv
  simp only [execOp,hop,Sem.run_bind]
  rw [ex,hr]
  rfl
 ·rename_i k0 k s b hs hd he
  rw [he] at hx
  have ex:=rel_flo hx
  obtain ⟨n,hn,hv⟩:=Option.bind_eq_some_iff.1 hv
  unfold ftoI at hn
  split at hn
  ·rename_i m hm
   cases hc:(decide (k.min<=m)&&decide (m<=k.max)) with
   | false=>rw [hc] at hn;cases hn
   | true=>
    rw [hc] at hn
    injection hn with hn
    subst hn
    rw [Bool.and_eq_true,decide_eq_true_eq,decide_eq_true_eq] at hc
    have hr:(convert src dst (.float s b)).run E.P w=.ok (.int k m) w:=by
     simp [convert,run_underlying hs,run_underlying hd,Conv.floatToInt,hm,hc]
    refine goes_same h (v:=.int k m) (p:=pint k m) ?_ (mk_int (by simp [Lit.wf,hc])) (fun _ _ _ _ e=>by cases e) hv
    simp only [execOp,hop,Sem.run_bind]
    rw [ex,hr]
    rfl
  ·cases hn
 ·cases hv
end
section
variable {F F' : Fr} {g g' : Gh} {w w' : World} {O O' : Tok -> Bool} {σ : Tok -> Tok -> Prop}
inductive SameL (σ:Tok->Tok->Prop):Leaf->Leaf->Prop where
 | d (t:Ty) (x:t.D):SameL σ (.d t x) (.d t x)
 | down (k:Tok) (E:TypeId) (e:Ty) (l:List e.D):SameL σ (.own k E e l) (.d (.sl e) l)
 | own (k k':Tok) (E:TypeId) (e:Ty) (l:List e.D) (h:σ k k'):SameL σ (.own k E e l) (.own k' E e l)
inductive SameLs (σ:Tok->Tok->Prop):List Leaf->List Leaf->Prop where
 | nil:SameLs σ [] []
 | cons {l l':Leaf} {ls ls':List Leaf} (h:SameL σ l l') (hs:SameLs σ ls ls'):SameLs σ (l::ls) (l'::ls')
theorem SameL.mono {σ':Tok->Tok->Prop} {l l':Leaf} (h:SameL σ l l') (hm:∀ k k',σ k k'->σ' k k'):SameL σ' l l':=by
 cases h with
 | d t x=>exact .d t x
 | down k E e l=>exact .down k E e l
 | own k k' E e l h=>exact .own k k' E e l (hm _ _ h)
theorem SameLs.mono {σ':Tok->Tok->Prop} {ls ls':List Leaf} (h:SameLs σ ls ls') (hm:∀ k k',σ k k'->σ' k k'):SameLs σ' ls ls':=by
 induction h with
 | nil=>exact .nil
 | cons h _ ih=>exact .cons (h.mono hm) ih
theorem SameL.size {l l':Leaf} (h:SameL σ l l'):l'.size=l.size:=by cases h <;> rfl
theorem SameLs.length {ls ls':List Leaf} (h:SameLs σ ls ls'):ls'.length=ls.length:=by
 induction h with
 | nil=>rfl
 | cons _ _ ih=>simp [ih]
theorem SameLs.sizes {ls ls':List Leaf} (h:SameLs σ ls ls'):sizeLs ls'=sizeLs ls:=by
 induction h with
 | nil=>rfl
 | cons h _ ih=>simp [sizeLs,h.size,ih]
theorem SameLs.take {ls ls':List Leaf} (h:SameLs σ ls ls'):∀ n,SameLs σ (ls.take n) (ls'.take n):=by
 induction h with
 | nil=>intro n;simp;exact .nil
 | cons h _ ih=>intro n;cases n with
  | zero=>exact .nil
  | succ n=>exact .cons h (ih n)
theorem SameLs.drop {ls ls':List Leaf} (h:SameLs σ ls ls'):∀ n,SameLs σ (ls.drop n) (ls'.drop n):=by
 induction h with
 | nil=>intro n;simp;exact .nil
 | cons h hs ih=>intro n;cases n with
  | zero=>exact .cons h hs
  | succ n=>exact ih n
structure Turn (F:Fr) (g:Gh) (O:Tok->Bool) (F':Fr) (g':Gh) (O':Tok->Bool) (σ:Tok->Tok->Prop):Prop where
 C:g'.C=g.C
 blk:∀ k k',σ k k'->O' k'=true->O k=true /\ g'.blk k'=g.blk k
 wr:∀ k k' b o,σ k k'->O' k'=true->g.blk k=some b -> ¬ g.C b o->Wr F b o->Wr F' b o
theorem OwnR.turn (T:Turn F g O F' g' O' σ) {k k':Tok} {E:TypeId} {e:Ty} {l:List e.D} {v:Value} (hs:σ k k') (ho:O' k'=true) (h:OwnR F g w k E e l v):OwnR F' g' w k' E e l v:=by
 have hb:=(T.blk k k' hs ho).2
 rcases h with ⟨a,h1,h2,h3⟩ | ⟨b,cap,cur,h1,h2,h3,h4,h5,h6,h7,h8,h9⟩
 ·exact .inl ⟨a,h1,h2,hb.trans h3⟩
 ·refine .inr ⟨b,cap,cur,h1,hb.trans h2,h3,h4,h5,h6,fun i x hx=>by rw [T.C];exact h7 i x hx,fun o=>by rw [T.C];exact h8 o,fun o hlo=>T.wr k k' b o hs ho h2 (fun hc=>?_) (h9 o hlo)⟩
  have:=(h8 o).1 hc
  omega
theorem RepL.turn (T:Turn F g O F' g' O' σ) {l l':Leaf} {cs:List Value} (hs:SameL σ l l') (h:RepL F g w O l cs):RepL F' g' w O' l' cs:=by
 cases hs with
 | d t x=>
  have h':RepD w g.C t x cs:=h
  show RepD w g'.C t x cs
  rw [T.C];exact h'
 | down k E e l=>
  show RepD w g'.C (.sl e) l cs
  rw [T.C];exact h.1
 | own k k' E e l hσ=>
  refine ⟨by rw [T.C];exact h.1,fun ho=>?_⟩
  obtain ⟨v,hv,hr⟩:=h.2 (T.blk k k' hσ ho).1
  exact ⟨v,hv,hr.turn T hσ ho⟩
theorem RepLs.turn (T:Turn F g O F' g' O' σ) {ls ls':List Leaf} (hs:SameLs σ ls ls'):∀ {cs:List Value},RepLs F g w O ls cs->RepLs F' g' w O' ls' cs:=by
 induction hs with
 | nil=>exact fun h=>h
 | cons h _ ih=>
  rintro cs ⟨c1,c2,rfl,h1,h2⟩
  exact ⟨c1,c2,rfl,h1.turn T h,ih h2⟩
theorem RelV.turn (T:Turn F g O F' g' O' σ) {ls ls':List Leaf} (hs:SameLs σ ls ls') {u:Value} {ag:Bool} (h:RelV F g w O u ag ls):RelV F' g' w O' u ag ls':=
 let ⟨cs,h1,h2⟩:=h
 ⟨cs,h1.turn T hs,h2⟩

abbrev Dat:=(t:Ty)×t.D
theorem castD_sig {t t':Ty} {x:t.D} {y:t'.D} (h:castD t' x=some y):(⟨t,x⟩:Dat)=⟨t',y⟩:=by
 obtain ⟨e,he⟩:=castD_some h
 subst e;subst he;rfl
theorem castD_refl {t:Ty} {x y:t.D} (h:castD t x=some y):x=y:=by
 obtain ⟨e,he⟩:=castD_some h
 exact he
theorem teq_refl:∀ (t:Ty),teq t t=true
 | .int k=>by cases k <;> rfl
 | .bool=>rfl
 | .str=>rfl
 | .flo k=>by cases k <;> rfl
 | .cpx k=>by cases k <;> rfl
 | .err=>rfl
 | .un=>rfl
 | .sl e=>teq_refl e
 | .arr n e=>by
  show (Nat.beq n n&&teq e e)=true
  rw [teq_refl e];simp
 | .pr a b=>by
  show (teq a a&&teq b b)=true
  rw [teq_refl a,teq_refl b];rfl
theorem castD_self {t:Ty} (x:t.D):castD t x=some x:=by
 unfold castD
 rw [dif_pos (teq_refl t)]
 rfl
theorem takeLeaf_d {O:Tok->Bool} {t:Ty} {l:Leaf} {x:t.D} {k:Tok} (h:takeLeaf O (.d t) l=some (x,k)):leafD t l=some x /\ k=.zero:=by
 have h':(leafD t l).map (fun x=>(x,Tok.zero))=some (x,k):=by
  cases l <;> exact h
 obtain ⟨y,hy,he⟩:=Option.map_eq_some_iff.1 h'
 cases he
 exact ⟨hy,rfl⟩
theorem takeLeaf_own {O:Tok->Bool} {E E':TypeId} {e e':Ty} {k k':Tok} {z:List e'.D} {x:(Ty.sl e).D} (h:takeLeaf O (.own E e) (.own k' E' e' z)=some (x,k)):E=E' /\ O k'=true /\ castD (t:=.sl e') (.sl e) z=some x /\ k=k':=by
 have h':(match Nat.beq E E'&&O k' with | true=>(castD (t:=.sl e') (.sl e) z).map (fun x=>(x,k')) | false=>none)=some (x,k):=h
 split at h'
 ·rename_i hb
  simp only [Bool.and_eq_true] at hb
  obtain ⟨y,hy,he⟩:=Option.map_eq_some_iff.1 h'
  cases he
  exact ⟨Nat.eq_of_beq_eq_true hb.1,hb.2,hy,rfl⟩
 ·cases h'
theorem takeLeaf_row {O:Tok->Bool} {e:Ty} {l:Leaf} {x:(Ty.sl e).D} {k:Tok} (h:takeLeaf O (.row e) l=some (x,k)):k=.zero /\ ∃ (n:Nat) (z:(Ty.arr n e).D),l=.d (.arr n e) z /\ x=z:=by
 cases l with
 | own _ _ _ _=>cases h
 | d t z=>
  cases t with
  | arr n e'=>
   have h':(castD (t:=.sl e') (.sl e) z).map (fun x=>(x,Tok.zero))=some (x,k):=h
   obtain ⟨y,hy,he⟩:=Option.map_eq_some_iff.1 h'
   cases he
   obtain ⟨e2,he⟩:=castD_some (t:=.sl e') (t':=.sl e) hy
   injection e2 with e2
   subst e2
   exact ⟨rfl,n,z,rfl,he.symm⟩
  | _=>cases h
def arrOk:Leaf->Prop
 | .d (.arr n e) x=>List.length (α:=e.D) x=n
 | _=>True
theorem leaf_arr {F:Fr} {g:Gh} {w:World} {O:Tok->Bool} {l:Leaf} {cs:List Value} (h:RepL F g w O l cs):arrOk l:=by
 cases l with
 | own _ _ _ _=>trivial
 | d t x=>
  cases t with
  | arr n e=>exact (show RepD w g.C (.arr n e) x cs from h).1
  | _=>trivial
theorem repLs_arr {F:Fr} {g:Gh} {w:World} {O:Tok->Bool}:∀ {ls:List Leaf} {cs:List Value},RepLs F g w O ls cs -> ∀ l∈ls,arrOk l
 | [],_,_,l,hl=>by cases hl
 | y::ls,cs,h,l,hl=>by
  obtain ⟨c1,c2,_,h1,h2⟩:=h
  rcases List.mem_cons.1 hl with rfl | hl
  ·exact leaf_arr h1
  ·exact repLs_arr h2 l hl
theorem same_row {σ:Tok->Tok->Prop} {n:Nat} {e:Ty} {z:List e.D} (h:z.length=n):SameL σ (.d (.arr n e) z) (.d (.arr z.length e) z):=by
 subst h
 exact .d (.arr z.length e) z
theorem takeAllN_some {O:Tok->Bool} {ts:List LT} {ls:List Leaf} {r:List Tok×List Dat} (h:takeAllN O ts ls=some r):takeAll O ts ls=some r /\ ∀ t∈ts,LT.noRow t=true:=by
 unfold takeAllN at h
 split at h
 ·rename_i hb
  exact ⟨h,fun t ht=>List.all_eq_true.1 hb t ht⟩
 ·cases h
def TokAt (ts:List LT) (ks:List Tok) (lab:Nat->Tok) (j:Nat) (k k':Tok):Prop:=∃ i E e,ts[i]? = some (.own E e) /\ ks[i]? = some k /\ k'=lab (j+i)
theorem TokAt.succ {t:LT} {ts:List LT} {k0:Tok} {ks:List Tok} {lab:Nat->Tok} {j:Nat} {k k':Tok} (h:TokAt ts ks lab (j+1) k k'):TokAt (t::ts) (k0::ks) lab j k k':=by
 obtain ⟨i,E,e,h1,h2,h3⟩:=h
 exact ⟨i+1,E,e,by simpa using h1,by simpa using h2,by rw [h3];congr 1;omega⟩
theorem take_mk {O:Tok->Bool} {lab:Nat->Tok}:∀ {ts:List LT} {ls ls':List Leaf} {ks:List Tok} {xs:List Dat} {j:Nat},(∀ l∈ls,arrOk l \/ ∀ t∈ts,LT.noRow t=true)->takeAll O ts ls=some (ks,xs)->mkLs lab ts j xs=some ls' ->
  SameLs (fun k k'=>TokAt ts ks lab j k k' /\ O k=true) ls ls' /\ ks.length=ts.length
 | [],[],ls',ks,xs,j,_,h1,h2=>by
  simp only [takeAll,Option.some.injEq,Prod.mk.injEq] at h1
  obtain ⟨rfl,rfl⟩:=h1
  simp only [mkLs,Option.some.injEq] at h2
  subst h2
  exact ⟨.nil,rfl⟩
 | [],_::_,_,_,_,_,_,h1,_=>by cases h1
 | _::_,[],_,_,_,_,_,h1,_=>by cases h1
 | t::ts,l::ls,ls',ks,xs,j,hA,h1,h2=>by
  have hA':∀ y∈ls,arrOk y \/ ∀ t∈ts,LT.noRow t=true:=fun y hy=>(hA y (List.mem_cons_of_mem _ hy)).imp id fun h t ht=>h t (List.mem_cons_of_mem _ ht)
  unfold takeAll at h1
  split at h1
  ·rename_i x k ks' xs' ht hr
   simp only [Option.some.injEq,Prod.mk.injEq] at h1
   obtain ⟨rfl,rfl⟩:=h1
   cases t with
   | d t=>
    unfold mkLs at h2
    split at h2
    ·rename_i a r hx hm
     simp only [Option.some.injEq] at h2
     subst h2
     obtain ⟨i1,i2⟩:=take_mk hA' hr hm
     have hxa:x=a:=castD_refl hx
     subst hxa
     refine ⟨.cons ?_ (i1.mono fun k k' h=>⟨h.1.succ,h.2⟩),by simp [i2]⟩
     obtain ⟨hy,rfl⟩:=takeLeaf_d ht
     cases l with
     | d t' z=>
      obtain ⟨e,he⟩:=castD_some (t:=t') hy
      subst e
      subst he
      exact .d _ _
     | own k' E' e' z=>
      obtain ⟨e,he⟩:=castD_some (t:=.sl e') hy
      subst e
      have he':z=x:=he
      subst he'
      exact .down _ _ _ _
    ·cases h2
   | own E e=>
    unfold mkLs at h2
    split at h2
    ·rename_i a r hx hm
     simp only [Option.some.injEq] at h2
     subst h2
     obtain ⟨i1,i2⟩:=take_mk hA' hr hm
     have hxa:x=a:=castD_refl hx
     subst hxa
     cases l with
     | d t' z=>cases ht
     | own k' E' e' z=>
      obtain ⟨rfl,hO,hy,rfl⟩:=takeLeaf_own ht
      obtain ⟨e2,he⟩:=castD_some (t:=.sl e') (t':=.sl e) hy
      injection e2 with e2
      subst e2
      have he':z=x:=he
      subst he'
      exact ⟨.cons (.own _ _ _ _ _ ⟨⟨0,E,e',rfl,rfl,rfl⟩,hO⟩) (i1.mono fun k k' h=>⟨h.1.succ,h.2⟩),by simp [i2]⟩
    ·cases h2
   | row e=>
    unfold mkLs at h2
    split at h2
    ·rename_i a r hx hm
     simp only [Option.some.injEq] at h2
     subst h2
     obtain ⟨i1,i2⟩:=take_mk hA' hr hm
     have hxa:x=a:=castD_refl hx
     subst hxa
     obtain ⟨rfl,n,z,rfl,rfl⟩:=takeLeaf_row ht
     refine ⟨.cons ?_ (i1.mono fun k k' h=>⟨h.1.succ,h.2⟩),by simp [i2]⟩
     rcases hA _ (List.mem_cons_self) with h | h
     ·exact same_row h
     ·have:=h _ (List.mem_cons_self)
      cases this
    ·cases h2
  ·cases h1
theorem mk_mk {lab lab':Nat->Tok}:∀ {ts:List LT} {ls ls':List Leaf} {xs:List Dat} {j:Nat},mkLs lab ts j xs=some ls->mkLs lab' ts j xs=some ls' ->
  SameLs (fun k k'=>∃ i E e,ts[i]? = some (.own E e) /\ k=lab (j+i) /\ k'=lab' (j+i)) ls ls'
 | [],ls,ls',[],j,h1,h2=>by
  simp only [mkLs,Option.some.injEq] at h1 h2
  subst h1;subst h2;exact .nil
 | [],_,_,_::_,_,h1,_=>by cases h1
 | .d _::_,_,_,[],_,h1,_=>by cases h1
 | .own _ _::_,_,_,[],_,h1,_=>by cases h1
 | .row _::_,_,_,[],_,h1,_=>by cases h1
 | .row e::ts,ls,ls',x::xs,j,h1,h2=>by
  unfold mkLs at h1 h2
  split at h1
  ·rename_i a r hx hm
   split at h2
   ·rename_i a' r' hx' hm'
    simp only [Option.some.injEq] at h1 h2
    subst h1;subst h2
    rw [hx] at hx'
    cases hx'
    exact .cons (.d _ _) ((mk_mk hm hm').mono fun k k' ⟨i,E,e,q1,q2,q3⟩=>⟨i+1,E,e,by simpa using q1,by rw [q2];congr 1;omega,by rw [q3];congr 1;omega⟩)
   ·cases h2
  ·cases h1
 | .d t::ts,ls,ls',x::xs,j,h1,h2=>by
  unfold mkLs at h1 h2
  split at h1
  ·rename_i a r hx hm
   split at h2
   ·rename_i a' r' hx' hm'
    simp only [Option.some.injEq] at h1 h2
    subst h1;subst h2
    rw [hx] at hx'
    cases hx'
    exact .cons (.d _ _) ((mk_mk hm hm').mono fun k k' ⟨i,E,e,q1,q2,q3⟩=>⟨i+1,E,e,by simpa using q1,by rw [q2];congr 1;omega,by rw [q3];congr 1;omega⟩)
   ·cases h2
  ·cases h1
 | .own E e::ts,ls,ls',x::xs,j,h1,h2=>by
  unfold mkLs at h1 h2
  split at h1
  ·rename_i a r hx hm
   split at h2
   ·rename_i a' r' hx' hm'
    simp only [Option.some.injEq] at h1 h2
    subst h1;subst h2
    rw [hx] at hx'
    cases hx'
    exact .cons (.own _ _ _ _ _ ⟨0,E,e,rfl,rfl,rfl⟩) ((mk_mk hm hm').mono fun k k' ⟨i,E,e,q1,q2,q3⟩=>⟨i+1,E,e,by simpa using q1,by rw [q2];congr 1;omega,by rw [q3];congr 1;omega⟩)
   ·cases h2
  ·cases h1
theorem mk_d {lab:Nat->Tok} {ts:List LT} {j:Nat} {xs:List Dat} {ls':List Leaf} (h:mkLs lab ts (j+1) xs=some ls') {t:Ty} (x:t.D):mkLs lab (.d t::ts) j (⟨t,x⟩::xs)=some (.d t x::ls'):=by
 unfold mkLs
 simp only
 rw [castD_self,h]
theorem mk_own {lab:Nat->Tok} {ts:List LT} {j:Nat} {xs:List Dat} {ls':List Leaf} (h:mkLs lab ts (j+1) xs=some ls') {E:TypeId} {e:Ty} (x:(Ty.sl e).D):mkLs lab (.own E e::ts) j (⟨.sl e,x⟩::xs)=some (.own (lab j) E e x::ls'):=by
 unfold mkLs
 simp only
 rw [castD_self,h]
theorem mk_row {lab:Nat->Tok} {ts:List LT} {j:Nat} {xs:List Dat} {ls':List Leaf} (h:mkLs lab ts (j+1) xs=some ls') {e:Ty} (x:(Ty.sl e).D):mkLs lab (.row e::ts) j (⟨.sl e,x⟩::xs)=some (.d (.arr (List.length (α:=e.D) x) e) x::ls'):=by
 unfold mkLs
 simp only
 rw [castD_self,h]
theorem mk_some {O:Tok->Bool} {lab:Nat->Tok}:∀ {ts:List LT} {ls:List Leaf} {ks:List Tok} {xs:List Dat} {j:Nat},takeAll O ts ls=some (ks,xs) -> ∃ ls',mkLs lab ts j xs=some ls'
 | [],[],ks,xs,j,h1=>by
  simp only [takeAll,Option.some.injEq,Prod.mk.injEq] at h1
  obtain ⟨rfl,rfl⟩:=h1
  exact ⟨[],rfl⟩
 | [],_::_,_,_,_,h1=>by cases h1
 | _::_,[],_,_,_,h1=>by cases h1
 | t::ts,l::ls,ks,xs,j,h1=>by
  unfold takeAll at h1
  split at h1
  ·rename_i x k ks' xs' ht hr
   simp only [Option.some.injEq,Prod.mk.injEq] at h1
   obtain ⟨rfl,rfl⟩:=h1
   obtain ⟨ls',h⟩:=mk_some (lab:=lab) (j:=j+1) hr
   cases t with
   | d t=>exact ⟨_,mk_d h x⟩
   | own E e=>exact ⟨_,mk_own h x⟩
   | row e=>exact ⟨_,mk_row h x⟩
  ·cases h1
theorem unpack_cons (t u:Ty) (ts:List Ty) (a:t.D) (b:(prs (u::ts)).D):unpackD (t::u::ts) (show (prs (t::u::ts)).D from ((a,b):t.D×(prs (u::ts)).D))=(⟨t,a⟩:Dat)::unpackD (u::ts) b:=rfl
theorem pack_cons {t u:Ty} {ts:List Ty} {x:Dat} {xs:List Dat} {y:(prs (t::u::ts)).D} (h:packD (t::u::ts) (x::xs)=some y):∃ a b,castD t x.2=some a /\ packD (u::ts) xs=some b /\ y=(show (prs (t::u::ts)).D from ((a,b):t.D×(prs (u::ts)).D)):=by
 cases xs with
 | nil=>
  have h':(match castD t x.2,packD (u::ts) [] with | some a,some b=>some (show (prs (t::u::ts)).D from ((a,b):t.D×(prs (u::ts)).D)) | _,_=>none)=some y:=h
  split at h'
  ·rename_i a b ha hb
   exact ⟨a,b,ha,hb,(Option.some.inj h').symm⟩
  ·cases h'
 | cons z zs=>
  have h':(match castD t x.2,packD (u::ts) (z::zs) with | some a,some b=>some (show (prs (t::u::ts)).D from ((a,b):t.D×(prs (u::ts)).D)) | _,_=>none)=some y:=h
  split at h'
  ·rename_i a b ha hb
   exact ⟨a,b,ha,hb,(Option.some.inj h').symm⟩
  ·cases h'
theorem unpack_pack:∀ (ts:List Ty) (xs:List Dat) (y:(prs ts).D),packD ts xs=some y->unpackD ts y=xs
 | [],[],y,h=>rfl
 | [],_::_,y,h=>by cases h
 | [t],[x],y,h=>by
  have h':castD t x.2=some y:=h
  have:=castD_sig h'
  show [(⟨t,y⟩:Dat)]=[x]
  rw [<-this]
 | [t],[],y,h=>by cases h
 | [t],_::_::_,y,h=>by cases h
 | t::u::ts,[],y,h=>by cases h
 | t::u::ts,x::xs,y,h=>by
  obtain ⟨a,b,ha,hb,rfl⟩:=pack_cons h
  rw [unpack_cons,unpack_pack (u::ts) xs b hb,<- castD_sig ha]
theorem appF_cons {α:Type} (t:Ty) (ts:List Ty) (f:t.D->insT ts (Option α)) (x:Dat) (xs:List Dat):appF (t::ts) (show insT (t::ts) (Option α) from f) (x::xs)=match castD t x.2 with | some a=>appF ts (f a) xs | none=>none:=rfl
theorem curry_cons {α:Type} (t:Ty) (ts:List Ty) (f:List Dat->Option α):curryT (t::ts) f=(show insT (t::ts) (Option α) from fun a=>curryT ts fun xs=>f (⟨t,a⟩::xs)):=rfl
theorem appF_curry {α:Type}:∀ (ts:List Ty) (f:List Dat->Option α) (xs:List Dat) (y:α),appF ts (curryT ts f) xs=some y->f xs=some y:=by
 intro ts
 induction ts with
 | nil=>
  intro f xs y h
  cases xs with
  | nil=>exact h
  | cons _ _=>cases h
 | cons t ts ih=>
  intro f xs y h
  cases xs with
  | nil=>cases h
  | cons x xs=>
   rw [curry_cons,appF_cons] at h
   split at h
   ·rename_i a ha
    have h2:=ih _ _ _ h
    rw [<-castD_sig ha] at h2
    exact h2
   ·cases h
theorem labs_mem {lab:Nat->Tok} {k:Tok}:∀ {ts:List LT} {j:Nat},k∈labs lab ts j ↔ ∃ i E e,ts[i]? = some (.own E e) /\ k=lab (j+i)
 | [],j=>by simp [labs]
 | .d t::ts,j=>by
  show k∈labs lab ts (j+1)↔_
  rw [labs_mem]
  constructor
  ·rintro ⟨i,E,e,h1,h2⟩;exact ⟨i+1,E,e,by simpa using h1,by rw [h2];congr 1;omega⟩
  ·rintro ⟨i,E,e,h1,h2⟩
   cases i with
   | zero=>simp at h1
   | succ i=>exact ⟨i,E,e,by simpa using h1,by rw [h2];congr 1;omega⟩
 | .row t::ts,j=>by
  show k∈labs lab ts (j+1)↔_
  rw [labs_mem]
  constructor
  ·rintro ⟨i,E,e,h1,h2⟩;exact ⟨i+1,E,e,by simpa using h1,by rw [h2];congr 1;omega⟩
  ·rintro ⟨i,E,e,h1,h2⟩
   cases i with
   | zero=>simp at h1
   | succ i=>exact ⟨i,E,e,by simpa using h1,by rw [h2];congr 1;omega⟩
 | .own E0 e0::ts,j=>by
  show k∈lab j::labs lab ts (j+1)↔_
  rw [List.mem_cons,labs_mem]
  constructor
  ·rintro (rfl | ⟨i,E,e,h1,h2⟩)
   ·exact ⟨0,E0,e0,rfl,rfl⟩
   ·exact ⟨i+1,E,e,by simpa using h1,by rw [h2];congr 1;omega⟩
  ·rintro ⟨i,E,e,h1,h2⟩
   cases i with
   | zero=>exact .inl (by rw [h2];rfl)
   | succ i=>exact .inr ⟨i,E,e,by simpa using h1,by rw [h2];congr 1;omega⟩
theorem distinct_at:∀ {ks:List Tok} {i j:Nat} {k:Tok},distinctT ks=true->ks[i]? = some k->ks[j]? = some k->k≠.zero->i=j
 | [],i,j,k,_,h1,_,_=>by simp at h1
 | t::ks,i,j,k,hd,h1,h2,hk=>by
  have hr:distinctT ks=true:=by cases t <;> simp [distinctT] at hd <;> first | exact hd | exact hd.2
  have hnot:t≠.zero->t ∉ ks:=fun hz hm=>by
   cases t with
   | zero=>exact hz rfl
   | op a b=>simp [distinctT] at hd;rw [hasT_iff.2 hm] at hd;simp at hd
   | hd a b=>simp [distinctT] at hd;rw [hasT_iff.2 hm] at hd;simp at hd
  cases i with
  | zero=>
   cases j with
   | zero=>rfl
   | succ j=>
    simp at h1 h2
    subst h1
    exact (hnot hk (List.mem_of_getElem? h2)).elim
  | succ i=>
   cases j with
   | zero=>
    simp at h1 h2
    subst h2
    exact (hnot hk (List.mem_of_getElem? h1)).elim
   | succ j=>
    have:=distinct_at hr (by simpa using h1) (by simpa using h2) hk
    omega
end
def resAt:List (Bool×List LT)->List Leaf->Nat->PV
 | [],_,_=>.dead
 | (ag,ts)::_,ls,0=>.w ag (ls.take ts.length)
 | (_,ts)::r,ls,i+1=>resAt r (ls.drop ts.length) i
def Sig.nres (s:Sig):Nat:=(s.rs.flatMap (·.2)).length
def inoutAt:List Par->List Leaf->Nat->Option (List Leaf)
 | [],_,_=>none
 | .v _ _::_,_,0=>none
 | .m ts::_,ls,0=>some (ls.take ts.length)
 | .v _ _::r,ls,i+1=>inoutAt r ls i
 | .m ts::r,ls,i+1=>inoutAt r (ls.drop ts.length) i
def exitSt (s:Sig) (y:s.out.D):Option PSt:=
 match mkLs (Tok.hd 0) s.outs 0 (unpackD (s.outs.map LT.ty) y) with
 | none=>none
 | some os=>some ⟨resAt s.rs os,fun k=>match inoutAt s.ps (os.drop s.nres) k with | some l=>some (0,l) | none=>none,fun t=>hasT (.zero::labs (Tok.hd 0) s.outs 0) t,[],[],[]⟩
def retV (us:List Value):Value:=match us with | [v]=>v | _=>.tuple ⟨us⟩
abbrev Tab:=List (Nat×Array Value)
def TabF (T:Tab) (F:Fr):Prop:=∀ p∈T,(∃ ty fr,F.w0.heap[p.1]? = some (.cells p.2 ty fr)) /\ ∀ i,i < p.2.size->F.C0 p.1 i /\ ¬ F.X p.1 i
def SoundFn (P:Program) (T:Tab) (f:FuncId) (s:Sig) (fn:s.Fn):Prop:=
 ∀ (F:Fr) (g:Gh) (st:PSt) (xs:List Dat) (y:s.out.D) (tmf:Nat->Value) (w:World) (args:Array Value),TabF T F->entrySt s xs=some st->appF ((parsT s.ps).map LT.ty) fn.f xs=some y->MRel F g st tmf w->F.w0=w->(∀ fd,P.funcs[f]? = some fd->F.n=fd.ntmps) ->
  args.size=s.ps.length->(∀ i,tmf i=args.getD i undef)->Calls P f args w fun e w'=>∃ us g' st',e=.returned (retV us) /\ us.length=s.rs.length /\ exitSt s y=some st' /\ MRel F g' st' (fun i=>us.getD i undef) w' /\ ∀ k,isM s.ps k=true->g'.ρ k=g.ρ k
def keyAt:List Par->List (Nat×Nat)->Nat->Option Nat
 | [],_,_=>none
 | .v _ _::_,_,0=>none
 | .v _ _::ps,ms,i+1=>keyAt ps ms i
 | .m _::_,(k,_)::_,0=>some k
 | .m _::ps,_::ms,i+1=>keyAt ps ms i
 | .m _::_,[],_=>none
section
variable {P : Program} {F : Fr} {g : Gh} {st : PSt} {a : Act} {w : World} {σ : Tok -> Tok -> Prop}
theorem keyAt_mem:∀ {ps:List Par} {ms:List (Nat×Nat)} {i k:Nat},keyAt ps ms i=some k->k∈ms.map (·.1)
 | [],_,_,_,h=>by cases h
 | .v _ _::ps,ms,0,k,h=>by cases h
 | .v _ _::ps,ms,i+1,k,h=>keyAt_mem (ps:=ps) h
 | .m _::ps,(k0,n)::ms,0,k,h=>by
  have:k0=k:=by simpa [keyAt] using h
  simp [this]
 | .m _::ps,(k0,n)::ms,i+1,k,h=>by
  have:=keyAt_mem (ps:=ps) (ms:=ms) (i:=i) h
  simp only [List.map_cons,List.mem_cons]
  exact .inr this
 | .m _::ps,[],i,k,h=>by cases i <;> cases h
theorem keyAt_inj:∀ {ps:List Par} {ms:List (Nat×Nat)} {i j k:Nat},distinctK ms=true->keyAt ps ms i=some k->keyAt ps ms j=some k->i=j
 | [],_,_,_,_,_,h,_=>by cases h
 | .v _ _::ps,ms,0,_,_,_,h,_=>by cases h
 | .v _ _::ps,ms,_+1,0,_,_,_,h=>by cases h
 | .v _ _::ps,ms,i+1,j+1,k,hd,h1,h2=>by rw [keyAt_inj (ps:=ps) hd h1 h2]
 | .m _::ps,(k0,n)::ms,0,0,k,_,_,_=>rfl
 | .m _::ps,(k0,n)::ms,0,j+1,k,hd,h1,h2=>by
  have e:k0=k:=by simpa [keyAt] using h1
  have:=keyAt_mem (ps:=ps) (ms:=ms) h2
  simp only [distinctK,Bool.and_eq_true,Bool.not_eq_true'] at hd
  have h3:=hd.1
  rw [e,hasN_iff.2 this] at h3
  cases h3
 | .m _::ps,(k0,n)::ms,i+1,0,k,hd,h1,h2=>by
  have e:k0=k:=by simpa [keyAt] using h2
  have:=keyAt_mem (ps:=ps) (ms:=ms) h1
  simp only [distinctK,Bool.and_eq_true,Bool.not_eq_true'] at hd
  have h3:=hd.1
  rw [e,hasN_iff.2 this] at h3
  cases h3
 | .m _::ps,(k0,n)::ms,i+1,j+1,k,hd,h1,h2=>by
  simp only [distinctK,Bool.and_eq_true] at hd
  rw [keyAt_inj (ps:=ps) (ms:=ms) hd.2 h1 h2]
 | .m _::ps,[],i,_,_,_,h,_=>by cases i <;> cases h
theorem parP_same {ls ls':List Leaf}:∀ {ps:List Par} {i:Nat} {ag:Bool} {l:List Leaf},SameLs σ ls ls'->isM ps i=false->parP ps ls i=.w ag l -> ∃ l',parP ps ls' i=.w ag l' /\ SameLs σ l l':=by
 intro ps
 induction ps generalizing ls ls' with
 | nil=>intro i ag l _ _ h;cases h
 | cons p ps ih=>
  intro i ag l hs hm h
  cases i with
  | zero=>
   cases p with
   | v ag0 ts=>
    have h':PV.w ag0 (ls.take ts.length)=.w ag l:=h
    injection h' with e1 e2
    subst e1;subst e2
    exact ⟨_,rfl,hs.take _⟩
   | m ts=>cases h
  | succ i=>exact ih (hs.drop _) (by cases p <;> exact hm) h
theorem parK_same {ls ls':List Leaf}:∀ {ps:List Par} {i:Nat} {l':List Leaf},SameLs σ ls ls'->parK ps ls' i=some l' -> ∃ l,parK ps ls i=some l /\ SameLs σ l l':=by
 intro ps
 induction ps generalizing ls ls' with
 | nil=>intro i l' _ h;cases h
 | cons p ps ih=>
  intro i l' hs h
  cases i with
  | zero=>
   cases p with
   | v ag0 ts=>cases h
   | m ts=>
    have h':some (ls'.take ts.length)=some l':=h
    injection h' with e
    subst e
    exact ⟨_,rfl,hs.take _⟩
  | succ i=>exact ih (hs.drop _) h
theorem isM_iff:∀ {ps:List Par} {i:Nat},isM ps i=true ↔ ∃ ts,ps[i]? = some (.m ts)
 | [],i=>by simp [isM]
 | .v _ _::ps,0=>by simp [isM]
 | .m ts::ps,0=>by simp [isM]
 | .v _ _::ps,i+1=>by rw [show isM (.v _ _::ps) (i+1)=isM ps i from rfl,isM_iff];simp
 | .m _::ps,i+1=>by rw [show isM (.m _::ps) (i+1)=isM ps i from rfl,isM_iff];simp
theorem parK_isM:∀ {ps:List Par} {ls:List Leaf} {i:Nat} {l:List Leaf},parK ps ls i=some l->isM ps i=true
 | [],_,_,_,h=>by cases h
 | .v _ _::ps,ls,0,_,h=>by cases h
 | .m ts::ps,ls,0,_,h=>rfl
 | .v _ _::ps,ls,i+1,l,h=>parK_isM (ps:=ps) h
 | .m _::ps,ls,i+1,l,h=>parK_isM (ps:=ps) h
def ArgK (F:Fr) (g:Gh) (st:PSt) (a:Act) (w:World) (ps:List Par) (ls:List Leaf) (ms:List (Nat×Nat)) (i:Nat) (x:Operand):Par->Prop
 | .v ag ts=>∃ l,parP ps ls i=.w ag l /\ RelV F g w st.O (a.eval x) ag l
 | .m ts=>∃ k σ l,parK ps ls i=some l /\ st.L k=some (σ,l) /\ l.length=ts.length /\ a.eval x=.pointer (some ⟨(g.ρ k).1,(g.ρ k).2,none⟩) /\ keyAt ps ms i=some k
theorem argsP_facts (h:MRel F g st (tm a) w):∀ {ps:List Par} {xs:List Operand} {ts:List TypeId} {ls:List Leaf} {ms:List (Nat×Nat)},argsP P st (evK st.kn st.φ) ps xs ts=some (ls,ms) ->
  xs.length=ps.length /\ (∀ l∈ls,∃ cs,RepL F g w st.O l cs) /\ (∀ k∈ms.map (·.1),∃ i,keyAt ps ms i=some k) /\ ∀ (i:Nat) (p:Par),ps[i]? = some p -> ∃ x,xs[i]? = some x /\ ArgK F g st a w ps ls ms i x p
 | [],[],ts,ls,ms,hp=>by
  simp only [argsP,Option.some.injEq,Prod.mk.injEq] at hp
  obtain ⟨rfl,rfl⟩:=hp
  exact ⟨rfl,fun l hl=>by simp at hl,fun k hk=>by simp at hk,fun i p hi=>by simp at hi⟩
 | [],_::_,_,_,_,hp=>by cases hp
 | _::_,[],_,_,_,hp=>by cases hp
 | p::ps,x::xs,ts,ls,ms,hp=>by
  unfold argsP at hp
  split at hp
  ·rename_i la ma lb mb ha hb
   simp only [Option.some.injEq,Prod.mk.injEq] at hp
   obtain ⟨rfl,rfl⟩:=hp
   obtain ⟨i1,i2,i4,i3⟩:=argsP_facts h hb
   have hx0:RelP F g w st.O (tm a) (a.eval x) (argN P ts (evK st.kn st.φ x)):=by
    cases ts with
    | nil=>exact ev_rel h x
    | cons t ts=>exact norm_rel h.blk0 (ev_rel h x)
   generalize argN P ts (evK st.kn st.φ x)=q at ha hx0
   unfold argP at ha
   split at ha
   ·rename_i ag tys ag' l
    split at ha
    ·rename_i hb2
     simp only [Bool.and_eq_true] at hb2
     have hag:ag=ag':=bEq_iff.1 hb2.1
     have hlen:l.length=tys.length:=by simpa using hb2.2
     simp only [Option.some.injEq,Prod.mk.injEq] at ha
     obtain ⟨rfl,rfl⟩:=ha
     subst hag
     have hdrop:∀ {r:List Leaf},(l++r).drop (Par.v ag tys).ts.length=r:=fun {r}=>by
      show (l++r).drop tys.length=r
      rw [<-hlen];simp
     refine ⟨by simp [i1],fun y hy=>?_,fun k hk=>?_,fun i p hi=>?_⟩
     ·rcases List.mem_append.1 hy with hy | hy
      ·obtain ⟨cs,hr,_⟩:=hx0
       obtain ⟨pre,post,rfl⟩:=List.append_of_mem hy
       obtain ⟨c1,c2,rfl,_,hr2⟩:=repLs_split hr
       obtain ⟨c3,c4,rfl,hr3,_⟩:=hr2
       exact ⟨c3,hr3⟩
      ·exact i2 y hy
     ·obtain ⟨i,hi⟩:=i4 k (by simpa using hk)
      exact ⟨i+1,by simpa [keyAt] using hi⟩
     ·cases i with
      | zero=>
       simp only [List.getElem?_cons_zero,Option.some.injEq] at hi
       subst hi
       refine ⟨x,rfl,l,?_,hx0⟩
       show PV.w ag ((l++lb).take tys.length)=_
       rw [<-hlen];simp
      | succ i=>
       obtain ⟨y,hy,hk⟩:=i3 i p (by simpa using hi)
       refine ⟨y,by simpa using hy,?_⟩
       cases p with
       | v ag2 ts2=>
        obtain ⟨l2,h1,h2⟩:=hk
        refine ⟨l2,?_,h2⟩
        show parP ps ((l++lb).drop (Par.v ag tys).ts.length) i=_
        rw [hdrop];exact h1
       | m ts2=>
        obtain ⟨k,σ,l2,h1,h2,h3,h4,h5⟩:=hk
        refine ⟨k,σ,l2,?_,h2,h3,h4,by simpa [keyAt] using h5⟩
        show parK ps ((l++lb).drop (Par.v ag tys).ts.length) i=_
        rw [hdrop];exact h1
    ·cases ha
   ·rename_i tys k off
    split at ha
    ·rename_i σ l hL
     split at ha
     ·rename_i hb2
      simp only [Bool.and_eq_true] at hb2
      have hoff:off=0:=by simpa using hb2.1
      have hlen:l.length=tys.length:=by simpa using hb2.2
      simp only [Option.some.injEq,Prod.mk.injEq] at ha
      obtain ⟨rfl,rfl⟩:=ha
      subst hoff
      have hdrop:∀ {r:List Leaf},(l++r).drop (Par.m tys).ts.length=r:=fun {r}=>by
       show (l++r).drop tys.length=r
       rw [<-hlen];simp
      refine ⟨by simp [i1],fun y hy=>?_,fun k' hk=>?_,fun i p hi=>?_⟩
      ·rcases List.mem_append.1 hy with hy | hy
       ·obtain ⟨cs,hr,_⟩:=loc_cells h hL
        obtain ⟨pre,post,rfl⟩:=List.append_of_mem hy
        obtain ⟨c1,c2,rfl,_,hr2⟩:=repLs_split hr
        obtain ⟨c3,c4,rfl,hr3,_⟩:=hr2
        exact ⟨c3,hr3⟩
       ·exact i2 y hy
      ·simp only [List.cons_append,List.nil_append,List.map_cons,List.mem_cons] at hk
       rcases hk with rfl | hk
       ·exact ⟨0,rfl⟩
       ·obtain ⟨i,hi⟩:=i4 k' hk
        exact ⟨i+1,hi⟩
      ·cases i with
       | zero=>
        simp only [List.getElem?_cons_zero,Option.some.injEq] at hi
        subst hi
        refine ⟨x,rfl,k,σ,l,?_,hL,hlen,?_,rfl⟩
        ·show some ((l++lb).take tys.length)=_
         rw [<-hlen];simp
        ·have:a.eval x=_:=hx0
         simpa using this
       | succ i=>
        obtain ⟨y,hy,hk⟩:=i3 i p (by simpa using hi)
        refine ⟨y,by simpa using hy,?_⟩
        cases p with
        | v ag2 ts2=>
         obtain ⟨l2,h1,h2⟩:=hk
         refine ⟨l2,?_,h2⟩
         show parP ps ((l++lb).drop (Par.m tys).ts.length) i=_
         rw [hdrop];exact h1
        | m ts2=>
         obtain ⟨k2,σ2,l2,h1,h2,h3,h4,h5⟩:=hk
         refine ⟨k2,σ2,l2,?_,h2,h3,h4,h5⟩
         show parK ps ((l++lb).drop (Par.m tys).ts.length) i=_
         rw [hdrop];exact h1
     ·cases ha
    ·cases ha
   ·cases ha
  ·cases hp
theorem take_own {O:Tok->Bool}:∀ {ts:List LT} {ls:List Leaf} {ks:List Tok} {xs:List Dat},takeAll O ts ls=some (ks,xs) -> ∀ (i:Nat) (k:Tok),ks[i]? = some k->(k=.zero) \/ ∃ E e l,ts[i]? = some (.own E e) /\ ls[i]? = some (.own k E e l) /\ O k=true
 | [],[],ks,xs,h1=>by
  simp only [takeAll,Option.some.injEq,Prod.mk.injEq] at h1
  obtain ⟨rfl,rfl⟩:=h1
  intro i k hk;simp at hk
 | [],_::_,_,_,h1=>by cases h1
 | _::_,[],_,_,h1=>by cases h1
 | t::ts,l::ls,ks,xs,h1=>by
  unfold takeAll at h1
  split at h1
  ·rename_i x k0 ks' xs' ht hr
   simp only [Option.some.injEq,Prod.mk.injEq] at h1
   obtain ⟨rfl,rfl⟩:=h1
   intro i k hk
   cases i with
   | succ i=>
    rcases take_own hr i k (by simpa using hk) with h | ⟨E,e,l',q1,q2,q3⟩
    ·exact .inl h
    ·exact .inr ⟨E,e,l',by simpa using q1,by simpa using q2,q3⟩
   | zero=>
    simp only [List.getElem?_cons_zero,Option.some.injEq] at hk
    subst hk
    cases t with
    | d t=>exact .inl (takeLeaf_d ht).2
    | row e=>exact .inl (takeLeaf_row ht).1
    | own E e=>
     cases l with
     | d t' z=>cases ht
     | own k' E' e' z=>
      obtain ⟨rfl,hO,hy,rfl⟩:=takeLeaf_own ht
      obtain ⟨e2,he⟩:=castD_some (t:=.sl e') (t':=.sl e) hy
      injection e2 with e2
      subst e2
      exact .inr ⟨E,e',z,rfl,rfl,hO⟩
  ·cases h1
theorem take_ks {O:Tok->Bool}:∀ {ts:List LT} {ls:List Leaf} {ks:List Tok} {xs:List Dat},takeAll O ts ls=some (ks,xs) -> ∀ (i:Nat) (E:TypeId) (e:Ty),ts[i]? = some (.own E e) -> ∃ k,ks[i]? = some k /\ O k=true
 | [],[],ks,xs,h1=>by intro i E e hi;simp at hi
 | [],_::_,_,_,h1=>by cases h1
 | _::_,[],_,_,h1=>by cases h1
 | t::ts,l::ls,ks,xs,h1=>by
  unfold takeAll at h1
  split at h1
  ·rename_i x k0 ks' xs' ht hr
   simp only [Option.some.injEq,Prod.mk.injEq] at h1
   obtain ⟨rfl,rfl⟩:=h1
   intro i E e hi
   cases i with
   | succ i=>
    obtain ⟨k,q1,q2⟩:=take_ks hr i E e (by simpa using hi)
    exact ⟨k,by simpa using q1,q2⟩
   | zero=>
    simp only [List.getElem?_cons_zero,Option.some.injEq] at hi
    subst hi
    cases l with
    | d t' z=>cases ht
    | own k' E' e' z=>
     obtain ⟨rfl,hO,hy,rfl⟩:=takeLeaf_own ht
     exact ⟨k0,rfl,hO⟩
  ·cases h1
def callX (g:Gh) (st:PSt) (ks:List Tok) (ms:List (Nat×Nat)):Com:=fun b o=>
 (∃ k σ l,k∈ms.map (·.1) /\ st.L k=some (σ,l) /\ b=(g.ρ k).1 /\ (g.ρ k).2<=o /\ o < (g.ρ k).2+sizeLs l) \/ ∃ k,k∈ks /\ st.O k=true /\ g.blk k=some b /\ ¬ g.C b o
def callG (g:Gh) (s:Sig) (ks:List Tok) (ms:List (Nat×Nat)):Gh:=
 ⟨g.C,fun t=>match t with | .hd 0 j=>g.blk (ks.getD j .zero) | _=>none,fun i=>match keyAt s.ps ms i with | some k=>g.ρ k | none=>(0,0),fun _ _=>[]⟩
theorem tab_now {T:Tab} (hT:TabF T F) (hf:Frame F g.C w):∀ p∈T,(∃ ty fr,w.heap[p.1]? = some (.cells p.2 ty fr)) /\ ∀ i,i < p.2.size->g.C p.1 i:=fun p hp=>by
 obtain ⟨⟨ty,fr,h1⟩,h2⟩:=hT p hp
 have hlt:=(Array.getElem?_eq_some_iff.1 h1).1
 obtain ⟨cs',fr',h3,h4,h5⟩:=hf.shape _ _ _ _ hlt h1
 have e:cs'=p.2:=by
  apply Array.ext h4
  intro i hi hi2
  have:=h5 i (h2 i hi2).2
  rw [Array.getElem?_eq_getElem hi,Array.getElem?_eq_getElem hi2] at this
  exact Option.some.inj this
 subst e
 exact ⟨⟨ty,fr',h3⟩,fun i hi=>hf.mono _ _ (h2 i hi).1⟩
theorem callX_free (h:MRel F g st (tm a) w) {ks:List Tok} {ms:List (Nat×Nat)} {b o:Nat} (hx:callX g st ks ms b o):¬ g.C b o:=by
 rcases hx with ⟨k,σ,l,_,hL,rfl,h1,h2⟩ | ⟨k,_,_,_,hc⟩
 ·obtain ⟨cur,T,_,_,_,hw,_⟩:=h.locals k σ l hL
  exact (hw o h1 h2).1
 ·exact hc
theorem tab_call {T:Tab} (hT:TabF T F) (h:MRel F g st (tm a) w) {n0:Nat} {ks:List Tok} {ms:List (Nat×Nat)}:TabF T ⟨n0,w,g.C,callX g st ks ms⟩:=fun p hp=>by
 obtain ⟨h1,h2⟩:=tab_now hT h.fr p hp
 exact ⟨h1,fun i hi=>⟨h2 i hi,fun hx=>callX_free h hx (h2 i hi)⟩⟩
theorem entry_rel {n0:Nat} (h:MRel F g st (tm a) w) {s:Sig} {xs:List Operand} {ts:List TypeId} {ls:List Leaf} {ms:List (Nat×Nat)} {ks:List Tok} {ds:List Dat} {stE:PSt}
  (hargs:argsP P st (evK st.kn st.φ) s.ps xs ts=some (ls,ms)) (htake:takeAll st.O (parsT s.ps) ls=some (ks,ds)) (hdt:distinctT ks=true) (hdk:distinctK ms=true) (hent:entrySt s ds=some stE) :
  MRel ⟨n0,w,g.C,callX g st ks ms⟩ (callG g s ks ms) stE (fun i=>(xs.map a.eval).getD i undef) w:=by
 obtain ⟨hlen,hleaf,hkeys,hper⟩:=argsP_facts h hargs
 unfold entrySt at hent
 split at hent
 ·cases hent
 rename_i lsE hmk
 injection hent with hent
 obtain ⟨hsame,hkl⟩:=take_mk (fun l hl=>.inl (by obtain ⟨cs,hr⟩:=hleaf l hl;exact leaf_arr hr)) htake hmk
 have T:Turn F g st.O ⟨n0,w,g.C,callX g st ks ms⟩ (callG g s ks ms) (fun t=>hasT (.zero::labs (Tok.hd 0) (parsT s.ps) 0) t) (fun k k'=>TokAt (parsT s.ps) ks (Tok.hd 0) 0 k k' /\ st.O k=true):=by
  refine ⟨rfl,fun k k' hσ _=>⟨hσ.2,?_⟩,fun k k' b o hσ _ hb hc _=>?_⟩
  ·obtain ⟨⟨i,E,e,h1,h2,rfl⟩,_⟩:=hσ
   show g.blk (ks.getD (0+i) .zero)=_
   rw [List.getD_eq_getElem?_getD,Nat.zero_add,h2];rfl
  ·obtain ⟨⟨i,E,e,h1,h2,rfl⟩,hO⟩:=hσ
   exact .inr (.inr ⟨k,List.mem_of_getElem? h2,hO,hb,hc⟩)
 have tmE:∀ i x,xs[i]? = some x->(xs.map a.eval).getD i undef=a.eval x:=fun i x hx=>by simp [List.getD_eq_getElem?_getD,hx]
 have liveE:∀ k,hasT (.zero::labs (Tok.hd 0) (parsT s.ps) 0) k=true->k=.zero \/ ∃ i E e k0,k=.hd 0 i /\ (parsT s.ps)[i]? = some (.own E e) /\ ks[i]? = some k0 /\ st.O k0=true /\ (callG g s ks ms).blk k=g.blk k0:=fun k hk=>by
  rcases List.mem_cons.1 (hasT_iff.1 hk) with rfl | hm
  ·exact .inl rfl
  ·obtain ⟨i,E,e,h1,rfl⟩:=labs_mem.1 hm
   obtain ⟨k0,q1,q2⟩:=take_ks htake i E e h1
   refine .inr ⟨i,E,e,k0,by rw [Nat.zero_add],h1,q1,q2,?_⟩
   show g.blk (ks.getD (0+i) .zero)=_
   rw [List.getD_eq_getElem?_getD,Nat.zero_add,q1];rfl
 have parE:∀ i l',parK s.ps lsE i=some l' -> ∃ k σ l,st.L k=some (σ,l) /\ keyAt s.ps ms i=some k /\ SameLs (fun k k'=>TokAt (parsT s.ps) ks (Tok.hd 0) 0 k k' /\ st.O k=true) l l':=fun i l' hp=>by
  obtain ⟨l,h1,h2⟩:=parK_same hsame hp
  obtain ⟨tys,hi⟩:=isM_iff.1 (parK_isM hp)
  obtain ⟨x,_,k,σ,l2,q1,q2,q3,q4,q5⟩:=hper i _ hi
  rw [h1] at q1
  cases q1
  exact ⟨k,σ,l,q2,q5,h2⟩
 subst hent
 refine ⟨⟨Nat.le_refl _,rfl,rfl,rfl,fun _ _ _=>rfl,fun b cs T fr _ hcs=>⟨cs,fr,hcs,rfl,fun _ _=>rfl⟩,fun _ _ _ _=>Iff.rfl,fun _ _ hc=>hc,h.fr.lim⟩,fun i=>?_,fun k σ l hL=>?_,fun k σ l hL hσ=>?_,fun t b hb=>by (cases hb),fun i t want ag l hs=>?_,fun d hd=>by (cases hd),fun i k hk=>?_,rfl,
  fun k k' b hk hk' hb hb'=>?_,fun k b j x hk hb hL=>?_,fun k b hk hb=>?_,fun k b hk hb=>?_,fun j j' x x' hj hj' he=>?_⟩
 ·show RelP _ _ _ _ _ _ (match isM s.ps i with | true=>PV.loc i 0 | false=>parP s.ps lsE i)
  cases hm:isM s.ps i with
  | true=>
   obtain ⟨tys,hi⟩:=isM_iff.1 hm
   obtain ⟨x,hx,k,σ,l,q1,q2,q3,q4,q5⟩:=hper i _ hi
   show (xs.map a.eval).getD i undef=_
   rw [tmE i x hx,q4]
   show _=Value.pointer (some ⟨((callG g s ks ms).ρ i).1,((callG g s ks ms).ρ i).2+0,none⟩)
   unfold callG
   simp only [q5,Nat.add_zero]
  | false=>
   by_cases hlt:i < s.ps.length
   ·have hi:s.ps[i]? = some s.ps[i]:=List.getElem?_eq_getElem hlt
    obtain ⟨x,hx,hk⟩:=hper i _ hi
    cases hp:s.ps[i] with
    | m tys=>rw [hp] at hi;rw [isM_iff.2 ⟨tys,hi⟩] at hm;cases hm
    | v ag tys=>
     rw [hp] at hk
     obtain ⟨l,q1,q2⟩:=hk
     obtain ⟨l',q3,q4⟩:=parP_same hsame hm q1
     show RelP _ _ _ _ _ _ (parP s.ps lsE i)
     rw [q3]
     show RelV _ _ _ _ ((xs.map a.eval).getD i undef) ag l'
     rw [tmE i x hx]
     exact q2.turn T q4
   ·have hge:s.ps.length<=i:=by omega
    have hpar:∀ (ps:List Par) (q:List Leaf) (i:Nat),ps.length<=i->parP ps q i=.raw undef:=by
     intro ps
     induction ps with
     | nil=>intro q i _;rfl
     | cons p ps ih=>
      intro q i hi
      cases i with
      | zero=>simp at hi
      | succ i=>exact ih _ i (by simpa using hi)
    show RelP _ _ _ _ _ _ (parP s.ps lsE i)
    rw [hpar _ _ _ hge]
    show (xs.map a.eval).getD i undef=undef
    rw [List.getD_eq_getElem?_getD,List.getElem?_eq_none (by simp;omega)]
    rfl
 ·have hL':(match parK s.ps lsE k with | some l=>some (0,l) | none=>none)=some (σ,l):=hL
  split at hL'
  ·rename_i l' hp
   simp only [Option.some.injEq,Prod.mk.injEq] at hL'
   obtain ⟨rfl,rfl⟩:=hL'
   obtain ⟨k0,σ0,l0,q1,q2,q3⟩:=parE k l' hp
   obtain ⟨cur,T0,hc1,hc2,hc3,hc4,hc5⟩:=h.locals k0 σ0 l0 q1
   have eρ:(callG g s ks ms).ρ k=g.ρ k0:=by unfold callG;simp only [q2]
   rw [eρ]
   refine ⟨cur,T0,hc1,by rw [q3.sizes];exact hc2,by rw [q3.sizes];exact hc3.turn T q3,fun o h1 h2=>?_,fun o ho=>hc5 o (by rw [q3.sizes] at ho;exact ho)⟩
   rw [q3.sizes] at h2
   exact ⟨(hc4 o h1 h2).1,.inr (.inl ⟨k0,σ0,l0,keyAt_mem q2,q1,rfl,h1,h2⟩)⟩
  ·cases hL'
 ·have hL':(match parK s.ps lsE k with | some l=>some (0,l) | none=>none)=some (σ,l):=hL
  split at hL'
  ·simp only [Option.some.injEq,Prod.mk.injEq] at hL'
   exact (hσ hL'.1.symm).elim
  ·cases hL'
 ·exfalso
  have hs':(match isM s.ps i with | true=>PV.loc i 0 | false=>parP s.ps lsE i)=.spec t want ag l:=hs
  have hpar:∀ (ps:List Par) (q:List Leaf) (i:Nat),parP ps q i≠.spec t want ag l:=by
   intro ps
   induction ps with
   | nil=>intro q i e;cases e
   | cons p ps ih=>
    intro q i e
    cases i with
    | zero=>cases p <;> cases e
    | succ i=>exact ih _ i e
  split at hs'
  ·cases hs'
  ·exact hpar _ _ _ hs'
 ·have hk':k∈keyP (match isM s.ps i with | true=>PV.loc i 0 | false=>parP s.ps lsE i):=hk
  have hpar:∀ (ps:List Par) (q:List Leaf) (i:Nat),k ∉ keyP (parP ps q i):=by
   intro ps
   induction ps with
   | nil=>intro q i e;cases e
   | cons p ps ih=>
    intro q i e
    cases i with
    | zero=>cases p <;> cases e
    | succ i=>exact ih _ i e
  split at hk'
  ·rename_i hm
   have hki:k=i:=by simpa [keyP] using hk'
   subst hki
   have hparK:∀ (ps:List Par) (q:List Leaf) (i:Nat),isM ps i=true -> ∃ l,parK ps q i=some l:=by
    intro ps
    induction ps with
    | nil=>intro q i e;cases e
    | cons p ps ih=>
     intro q i e
     cases i with
     | zero=>cases p with
      | v _ _=>cases e
      | m ts=>exact ⟨_,rfl⟩
     | succ i=>exact ih _ i (by cases p <;> exact e)
   obtain ⟨l,hl⟩:=hparK s.ps lsE k hm
   show (match parK s.ps lsE k with | some l=>some (0,l) | none=>none).isSome=true
   rw [hl];rfl
  ·exact (hpar _ _ _ hk').elim
 ·rcases liveE k hk with rfl | ⟨i,E,e,k0,rfl,_,q1,q2,q3⟩
  ·cases hb
  rcases liveE k' hk' with rfl | ⟨i',E',e',k0',rfl,_,q1',q2',q3'⟩
  ·cases hb'
  rw [q3] at hb;rw [q3'] at hb'
  have e1:=h.blkI k0 k0' b q2 q2' hb hb'
  subst e1
  have hz:k0≠.zero:=fun e=>by rw [e,h.blk0] at hb;cases hb
  rw [distinct_at hdt q1 q1' hz]
 ·rcases liveE k hk with rfl | ⟨i,E,e,k0,rfl,_,q1,q2,q3⟩
  ·cases hb
  rw [q3] at hb
  have hL':(match parK s.ps lsE j with | some l=>some (0,l) | none=>none)=some x:=hL
  split at hL'
  ·rename_i l' hp
   obtain ⟨k1,σ1,l1,r1,r2,_⟩:=parE j l' hp
   have eρ:(callG g s ks ms).ρ j=g.ρ k1:=by unfold callG;simp only [r2]
   rw [eρ]
   exact h.blkL k0 b k1 _ q2 hb r1
  ·cases hL'
 ·rcases liveE k hk with rfl | ⟨i,E,e,k0,rfl,_,q1,q2,q3⟩
  ·cases hb
  rw [q3] at hb
  exact h.blkS k0 b q2 hb
 ·rcases liveE k hk with rfl | ⟨i,E,e,k0,rfl,_,q1,q2,q3⟩
  ·cases hb
  rw [q3] at hb
  rcases take_own htake i k0 q1 with rfl | ⟨E2,e2,l2,r1,r2,r3⟩
  ·rw [h.blk0] at hb;cases hb
  ·obtain ⟨cs,hr⟩:=hleaf _ (List.mem_of_getElem? r2)
   obtain ⟨v,_,hown⟩:=hr.2 q2
   rcases hown with ⟨_,_,_,hn⟩ | ⟨b',cap,cur,_,hb',_,_,_,_,_,hcom,hw⟩
   ·rw [hn] at hb;cases hb
   ·rw [hb] at hb'
    cases hb'
    exact .inr ⟨l2.length*e2.size,.inr ⟨k0,List.mem_of_getElem? q1,q2,hb,fun hc=>by have:=(hcom _).1 hc;omega⟩⟩
 ·have hj0:(match parK s.ps lsE j with | some l=>some (0,l) | none=>none)=some x:=hj
  have hj1:(match parK s.ps lsE j' with | some l=>some (0,l) | none=>none)=some x':=hj'
  split at hj0
  ·rename_i l0 hp0
   split at hj1
   ·rename_i l1 hp1
    obtain ⟨k0,σ0,m0,r1,r2,_⟩:=parE j l0 hp0
    obtain ⟨k1,σ1,m1,r3,r4,_⟩:=parE j' l1 hp1
    have e0:(callG g s ks ms).ρ j=g.ρ k0:=by unfold callG;simp only [r2]
    have e1:(callG g s ks ms).ρ j'=g.ρ k1:=by unfold callG;simp only [r4]
    rw [e0,e1] at he
    have:=h.ρI k0 k1 _ _ r1 r3 he
    subst this
    exact keyAt_inj hdk r2 r4
   ·cases hj1
  ·cases hj0
end
section
variable {P : Program} {E : Env} {F : Fr} {g g' : Gh} {st : PSt} {a : Act} {w w' : World} {σ : Tok -> Tok -> Prop} {o : Oper} {R : Type} {C : Upd -> Option R} {r : R}
theorem Frame.gw {F:Fr} {C:Com} (h:Frame F C w) (hx:∀ b o,F.X b o -> ¬ F.C0 b o):Gw F.w0 F.C0 w C:=fun ad u hc hC=>by
 refine ⟨?_,h.mono _ _ hC⟩
 have hlt:=cell_lt hc
 unfold World.cell? at hc ⊢
 split at hc
 ·rename_i cs T fr hb
  obtain ⟨cs',fr',h1,h2,h3⟩:=h.shape _ cs T fr hlt hb
  rw [h1]
  simp only
  by_cases hs:ad.spot.isSome=true
  ·rw [if_pos hs] at hc;cases hc
  ·rw [if_neg hs] at hc ⊢
   rw [h3 _ fun hX=>hx _ _ hX hC]
   exact hc
 ·cases hc
theorem Frame.kp {F:Fr} {C:Com} (h:Frame F C w) {b:Nat} (hlt:b < F.w0.heap.size) (hx:∀ o,¬ F.X b o):w.heap[b]? = F.w0.heap[b]? /\ ∀ o,C b o↔F.C0 b o:=⟨h.old b hlt hx,fun o=>h.com b o hlt (hx o)⟩
theorem callX_wr (h:MRel F g st (tm a) w) {ks:List Tok} {ms:List (Nat×Nat)} {ls:List Leaf} {ts:List LT} {ds:List Dat} (hleaf:∀ l∈ls,∃ cs,RepL F g w st.O l cs) (htake:takeAll st.O ts ls=some (ks,ds)) {b o:Nat} (hx:callX g st ks ms b o):Wr F b o:=by
 rcases hx with ⟨k,σ,l,_,hL,rfl,h1,h2⟩ | ⟨k,hk,hO,hb,hc⟩
 ·obtain ⟨cur,T,_,_,_,hw,_⟩:=h.locals k σ l hL
  exact (hw o h1 h2).2
 ·obtain ⟨i,hi⟩:=List.mem_iff_getElem?.1 hk
  rcases take_own htake i k hi with rfl | ⟨E,e,l,q1,q2,q3⟩
  ·rw [h.blk0] at hb;cases hb
  ·obtain ⟨cs,hr⟩:=hleaf _ (List.mem_of_getElem? q2)
   obtain ⟨v,_,hown⟩:=hr.2 hO
   rcases hown with ⟨_,_,_,hn⟩ | ⟨b',cap,cur,_,hb',_,_,_,_,_,hcom,hw⟩
   ·rw [hn] at hb;cases hb
   ·rw [hb] at hb'
    cases hb'
    refine hw o ?_
    rcases Nat.lt_or_ge o (l.length*e.size) with hlt | hge
    ·exact (hc ((hcom o).2 hlt)).elim
    ·exact hge
theorem relT_res {F':Fr} {O O':Tok->Bool} (T:Turn F' g O F g' O' σ) (tmf:Nat->Value):∀ {rs:List (Bool×List LT)} {us:List Value} {ls ls':List Leaf},SameLs σ ls ls'->us.length=rs.length->(∀ i,i < rs.length->RelP F' g w O tmf (us.getD i undef) (resAt rs ls i)) ->
  RelT F g' w O' us ((rs.map (·.1)).zip (cutN (rs.map (·.2.length)) ls'))
 | [],[],ls,ls',_,_,_=>trivial
 | [],_::_,_,_,_,h,_=>by simp at h
 | _::_,[],_,_,_,h,_=>by simp at h
 | (ag,ts)::rs,u::us,ls,ls',hs,hl,h=>by
  refine ⟨?_,relT_res T tmf (hs.drop ts.length) (by simpa using hl) fun i hi=>?_⟩
  ·have h0:RelV F' g w O u ag (ls.take ts.length):=h 0 (by simp)
   exact h0.turn T (hs.take ts.length)
  ·exact h (i+1) (by simp;omega)
def mLens (ps:List Par):List Nat:=ps.filterMap fun | .m ts=>some ts.length | .v _ _=>none
theorem inout_locs:∀ {ps:List Par} {ms:List (Nat×Nat)} {os:List Leaf} {k:Nat} {l:List Leaf},ms.map (·.2)=mLens ps->(k,l)∈locsOut ms os -> ∃ i,keyAt ps ms i=some k /\ inoutAt ps os i=some l
 | [],[],os,k,l,_,h=>by cases h
 | [],_::_,os,k,l,hm,h=>by simp [mLens] at hm
 | .v ag ts::ps,ms,os,k,l,hm,h=>by
  obtain ⟨i,h1,h2⟩:=inout_locs (ps:=ps) (ms:=ms) hm h
  exact ⟨i+1,h1,h2⟩
 | .m ts::ps,[],os,k,l,hm,h=>by cases h
 | .m ts::ps,(k0,n)::ms,os,k,l,hm,h=>by
  have hm':n::ms.map (·.2)=ts.length::mLens ps:=hm
  injection hm' with e1 e2
  rcases List.mem_cons.1 h with h | h
  ·cases h
   exact ⟨0,rfl,by rw [e1];rfl⟩
  ·rw [e1] at h
   obtain ⟨i,h1,h2⟩:=inout_locs (ps:=ps) (ms:=ms) e2 h
   exact ⟨i+1,h1,h2⟩
theorem argsP_lens:∀ {ps:List Par} {xs:List Operand} {ts:List TypeId} {ls:List Leaf} {ms:List (Nat×Nat)} {ev:Operand->PV},argsP P st ev ps xs ts=some (ls,ms)->ms.map (·.2)=mLens ps
 | [],[],ts,ls,ms,ev,hp=>by
  simp only [argsP,Option.some.injEq,Prod.mk.injEq] at hp
  obtain ⟨rfl,rfl⟩:=hp
  rfl
 | [],_::_,_,_,_,_,hp=>by cases hp
 | _::_,[],_,_,_,_,hp=>by cases hp
 | p::ps,x::xs,ts,ls,ms,ev,hp=>by
  unfold argsP at hp
  split at hp
  ·rename_i la ma lb mb ha hb
   simp only [Option.some.injEq,Prod.mk.injEq] at hp
   obtain ⟨rfl,rfl⟩:=hp
   have ih:=argsP_lens hb
   generalize argN P ts (ev x)=q at ha
   unfold argP at ha
   split at ha
   ·split at ha
    ·simp only [Option.some.injEq,Prod.mk.injEq] at ha
     obtain ⟨rfl,rfl⟩:=ha
     exact ih
    ·cases ha
   ·split at ha
    ·split at ha
     ·rename_i hb2
      simp only [Bool.and_eq_true] at hb2
      have hlen:=Nat.eq_of_beq_eq_true hb2.2
      simp only [Option.some.injEq,Prod.mk.injEq] at ha
      obtain ⟨rfl,rfl⟩:=ha
      show _::mb.map (·.2)=_::mLens ps
      rw [ih,hlen]
     ·cases ha
    ·cases ha
   ·cases ha
  ·cases hp
theorem locsOut_keys:∀ {ms:List (Nat×Nat)} {os:List Leaf},(locsOut ms os).map (·.1)=ms.map (·.1)
 | [],_=>rfl
 | (k,n)::ms,os=>by
  show k::(locsOut ms (os.drop n)).map (·.1)=_
  rw [locsOut_keys];rfl
theorem inoutAt_same {ls ls':List Leaf}:∀ {ps:List Par} {i:Nat} {l':List Leaf},SameLs σ ls ls'->inoutAt ps ls' i=some l' -> ∃ l,inoutAt ps ls i=some l /\ SameLs σ l l':=by
 intro ps
 induction ps generalizing ls ls' with
 | nil=>intro i l' _ h;cases h
 | cons p ps ih=>
  intro i l' hs h
  cases p with
  | v ag ts=>cases i with
   | zero=>cases h
   | succ i=>exact ih hs h
  | m ts=>cases i with
   | zero=>
    have h':some (ls'.take ts.length)=some l':=h
    injection h' with e
    subst e
    exact ⟨_,rfl,hs.take _⟩
   | succ i=>exact ih (hs.drop _) h
theorem inoutAt_isM:∀ {ps:List Par} {ls:List Leaf} {i:Nat} {l:List Leaf},inoutAt ps ls i=some l->isM ps i=true
 | [],_,_,_,h=>by cases h
 | .v _ _::ps,ls,0,_,h=>by cases h
 | .m ts::ps,ls,0,_,h=>rfl
 | .v _ _::ps,ls,i+1,l,h=>inoutAt_isM (ps:=ps) h
 | .m _::ps,ls,i+1,l,h=>inoutAt_isM (ps:=ps) h
theorem isM_inoutAt:∀ {ps:List Par} {ls:List Leaf} {i:Nat},isM ps i=true -> ∃ l,inoutAt ps ls i=some l
 | [],_,_,h=>by cases h
 | .v _ _::ps,ls,0,h=>by cases h
 | .m ts::ps,ls,0,h=>⟨_,rfl⟩
 | .v _ _::ps,ls,i+1,h=>isM_inoutAt (ps:=ps) h
 | .m _::ps,ls,i+1,h=>isM_inoutAt (ps:=ps) h
def backG (g g':Gh) (d:Nat):Gh:=⟨g'.C,fun t=>match t with | .op d' j=>(match Nat.beq d' d with | true=>g'.blk (.hd 0 j) | false=>g.blk t) | _=>g.blk t,g.ρ,g.H⟩
theorem backG_new {d j:Nat}:(backG g g' d).blk (.op d j)=g'.blk (.hd 0 j):=by
 show (match Nat.beq d d with | true=>g'.blk (.hd 0 j) | false=>_)=_
 rw [show Nat.beq d d=true by simp]
theorem backG_old {d:Nat} {t:Tok} (h:∀ j,t≠.op d j):(backG g g' d).blk t=g.blk t:=by
 cases t with
 | op d' j=>
  show (match Nat.beq d' d with | true=>_ | false=>g.blk (.op d' j))=_
  have:Nat.beq d' d=false:=Bool.eq_false_iff.2 fun e=>h j (by rw [Nat.eq_of_beq_eq_true e])
  rw [this]
 | zero=>rfl
 | hd _ _=>rfl
theorem go_back {n0:Nat} (h:MRel F g st (tm a) w) {s:Sig} {xs:List Operand} {ts:List TypeId} {ls:List Leaf} {ms:List (Nat×Nat)} {ks:List Tok} {ds:List Dat} {d:Nat} {y:s.out.D} {stX:PSt} {us:List Value} {os:List Leaf}
    (hargs:argsP P st (evK st.kn st.φ) s.ps xs ts=some (ls,ms)) (htake:takeAll st.O (parsT s.ps) ls=some (ks,ds)) (hdt:distinctT ks=true) (hdk:distinctK ms=true)
    (hX:MRel ⟨n0,w,g.C,callX g st ks ms⟩ g' stX (fun i=>us.getD i undef) w') (hexit:exitSt s y=some stX) (hlen:us.length=s.rs.length) (hρ:∀ k,isM s.ps k=true->g'.ρ k=(callG g s ks ms).ρ k)
    (hos:mkLs (tokD (some d)) s.outs 0 (unpackD (s.outs.map LT.ty) y)=some os) (hfr:∀ j,st.O (.op d j)=false) :
    OutR F g st w ⟨resP s.rs os,locsOut ms (os.drop s.nres),labs (tokD (some d)) s.outs 0,ks.flatMap gone1⟩ (retV us) (backG g g' d) w':=by
  obtain ⟨_,hleaf,hkeys,hper⟩:=argsP_facts h hargs
  have hwr:=fun {b o:Nat} (hx:callX g st ks ms b o)=>callX_wr h hleaf htake hx
  have hfree:=fun {b o:Nat} (hx:callX g st ks ms b o)=>callX_free h hx
  have hF:=hX.fr
  unfold exitSt at hexit
  split at hexit
  · cases hexit
  rename_i osX hmk
  injection hexit with hexit
  have hsame:=mk_mk hmk hos
  have inGone:∀ k,k∈ks->k≠.zero->k∈ks.flatMap gone1:=fun k hk hz=>List.mem_flatMap.2 ⟨k,hk,gone_mem hz⟩
  have notX:∀ b,(∀ k,k∈ms.map (·.1) -> ∀ x,st.L k=some x->(g.ρ k).1≠b)->(∀ k,k∈ks->st.O k=true->g.blk k≠some b) -> ∀ o,¬ callX g st ks ms b o:=fun b h1 h2 o hx=>by
    rcases hx with ⟨k,σ,l,hk,hL,e,_⟩ | ⟨k,hk,hO,hb,_⟩
    · exact h1 k hk _ hL e.symm
    · exact h2 k hk hO hb
  have hC:∀ (b:Nat),b < w.heap.size->(∀ o,¬ callX g st ks ms b o)->Kp g w (backG g g' d) w' b:=fun b hb hx=>⟨(hF.kp hb hx).1,(hF.kp hb hx).2⟩
  have ltL:∀ k x,st.L k=some x->(g.ρ k).1 < w.heap.size:=fun k x hL=>by
    obtain ⟨cur,T,hc,_⟩:=h.locals k x.1 x.2 hL
    rcases Nat.lt_or_ge (g.ρ k).1 w.heap.size with hlt | hge
    · exact hlt
    · rw [Array.getElem?_eq_none hge] at hc;cases hc
  have labX:∀ k,k∈labs (tokD (some d)) s.outs 0 -> ∃ i E e,k=.op d i /\ s.outs[i]? = some (.own E e) /\ stX.O (.hd 0 i)=true:=fun k hk=>by
    obtain ⟨i,E,e,h1,rfl⟩:=labs_mem.1 hk
    refine ⟨i,E,e,by rw [Nat.zero_add];rfl,h1,?_⟩
    rw [<-hexit]
    exact hasT_iff.2 (List.mem_cons_of_mem _ (labs_mem.2 ⟨i,E,e,h1,by rw [Nat.zero_add]⟩))
  have T:Turn ⟨n0,w,g.C,callX g st ks ms⟩ g' stX.O F (backG g g' d) (putO st.O (labs (tokD (some d)) s.outs 0) (ks.flatMap gone1)) (fun k k'=>∃ i E e,s.outs[i]? = some (.own E e) /\ k=Tok.hd 0 (0+i) /\ k'=tokD (some d) (0+i)):=by
    refine ⟨rfl,fun k k' ⟨i,E,e,h1,h2,h3⟩ _=>?_,fun k k' b o ⟨i,E,e,h1,h2,h3⟩ _ hb hc hw=>?_⟩
    · subst h2;subst h3
      refine ⟨?_,backG_new⟩
      rw [<-hexit]
      exact hasT_iff.2 (List.mem_cons_of_mem _ (labs_mem.2 ⟨i,E,e,h1,rfl⟩))
    · rcases hw with hw | hw
      · exact .inl (Nat.le_trans h.fr.size hw)
      · exact hwr hw
  have fr:Frame F g'.C w':=by
    refine ⟨Nat.le_trans h.fr.size hF.size,hF.os.trans h.fr.os,hF.tape.trans h.fr.tape,hF.output.trans h.fr.output,fun b hb hx=>?_,fun b cs T0 f hb hcs=>?_,fun b o hb hx=>?_,fun b o hc=>hF.mono b o (h.fr.mono b o hc),hF.lim⟩
    · have hnx : ∀ o, ¬ callX g st ks ms b o := fun o hX => by
        rcases hwr hX with hw | hw
        · omega
        · exact hx o hw
      exact (hF.old b (Nat.lt_of_lt_of_le hb h.fr.size) hnx).trans (h.fr.old b hb hx)
    · obtain ⟨cs1,f1,q1,q2,q3⟩:=h.fr.shape b cs T0 f hb hcs
      obtain ⟨cs2,f2,q4,q5,q6⟩:=hF.shape b cs1 T0 f1 (Nat.lt_of_lt_of_le hb h.fr.size) q1
      refine ⟨cs2,f2,q4,q5.trans q2,fun o ho=>?_⟩
      rw [q6 o fun hX=>?_,q3 o ho]
      rcases hwr hX with hw | hw
      · omega
      · exact ho hw
    · rw [<-h.fr.com b o hb hx]
      exact hF.com b o (Nat.lt_of_lt_of_le hb h.fr.size) fun hX=>by
        rcases hwr hX with hw | hw
        · omega
        · exact hx hw
  refine ⟨fr,hF.gw fun b o hX=>hfree hX,fun k hk ho=>?_,fun _ _ _=>rfl,fun _=>.inl rfl,rfl,fun tmf=>?_,fun t want ag l e=>?_,fun k l hm=>?_,fun k x hL hnm=>?_,?_,fun k b hk hb=>?_,fun k k' b hk hk' hb hb'=>?_,fun k l hm hn=>?_⟩
  · rcases putO_true.1 ho with hb | ⟨hg,hO⟩
    · exact (hk hb).elim
    · refine ⟨hO,backG_old fun j e=>?_,fun b hb=>hC b (h.blkS k b hO hb) (notX b (fun k1 _ x hL=>h.blkL k b k1 x hO hb hL) fun k1 hk1 hO1 hb1=>?_)⟩
      · rw [e,hfr j] at hO;cases hO
      · have:=h.blkI k1 k b hO1 hO hb1 hb
        subst this
        exact hg (inGone k1 hk1 fun e=>by rw [e,h.blk0] at hb;cases hb)
  · have hslot : ∀ i, RelP ⟨n0, w, g.C, callX g st ks ms⟩ g' w' stX.O (fun i => us.getD i undef) (us.getD i undef) (resAt s.rs osX i) := fun i => by
      have:=hX.slots i
      rw [<-hexit] at this ⊢
      exact this
    show RelP F (backG g g' d) w' (putO st.O (labs (tokD (some d)) s.outs 0) (ks.flatMap gone1)) tmf (retV us) (resP s.rs os)
    clear hexit
    generalize s.rs=rs at hslot hlen ⊢
    match rs,us,hlen,hslot with
    | [(ag,tys)],[v],_,hslot=>
      have h0':RelV ⟨n0,w,g.C,callX g st ks ms⟩ g' w' stX.O v ag (osX.take tys.length):=hslot 0
      exact h0'.turn T (hsame.take _)
    | [],[],_,_=>exact ⟨[],rfl,trivial⟩
    | p::q::rest,u1::u2::us',hl,hslot=>
      refine ⟨u1::u2::us',rfl,?_⟩
      exact relT_res T (fun i=>(u1::u2::us').getD i undef) hsame hl fun i _=>hslot i
  · have hne : ∀ (rs : List (Bool × List LT)) (q : List Leaf), resP rs q ≠ .spec t want ag l := by
      intro rs q e
      match rs with
      | []=>cases e
      | [_]=>cases e
      | _::_::_=>cases e
    exact hne _ _ e
  · obtain ⟨i,q1,q2⟩:=inout_locs (argsP_lens hargs) hm
    obtain ⟨l',q3,q4⟩:=inoutAt_same (hsame.drop s.nres) q2
    have hL:stX.L i=some (0,l'):=by
      rw [<-hexit]
      show (match inoutAt s.ps (osX.drop s.nres) i with | some l=>some (0,l) | none=>none)=_
      rw [q3]
    obtain ⟨cur,T0,c1,c2,c3,c4,c5⟩:=hX.locals i 0 l' hL
    have eρ:g'.ρ i=g.ρ k:=by rw [hρ i (inoutAt_isM q3)];unfold callG;simp only [q1]
    rw [eρ] at c1 c2 c3 c4 c5
    refine ⟨cur,T0,c1,by rw [q4.sizes];exact c2,by rw [q4.sizes];exact c3.turn T q4,fun o h1 h2=>?_,fun o ho=>c5 o (by rw [q4.sizes] at ho;exact ho)⟩
    rw [q4.sizes] at h2
    obtain ⟨d1,d2⟩:=c4 o h1 h2
    refine ⟨d1,?_⟩
    rcases d2 with hw | hw
    · exact .inl (Nat.le_trans h.fr.size hw)
    · exact hwr hw
  · have hnk : ∀ k1, k1 ∈ ms.map (·.1) -> ∀ x1, st.L k1 = some x1 -> (g.ρ k1).1 ≠ (g.ρ k).1 := fun k1 hk1 x1 hL1 e => by
      have:=h.ρI k1 k x1 x hL1 hL e
      subst this
      rw [locsOut_keys] at hnm
      exact hnm hk1
    exact hC _ (ltL k x hL) (notX _ hnk fun k1 _ hO1 hb1=>h.blkL k1 _ k x hO1 hb1 hL rfl)
  · exact backG_old (fun j e=>by cases e) |>.trans h.blk0
  · obtain ⟨i,E1,e1,rfl,q1,q2⟩:=labX k hk
    rw [backG_new] at hb
    refine ⟨?_,hX.blkS _ b q2 hb⟩
    rcases hX.blkW _ b q2 hb with hge | ⟨o,hx⟩
    · exact .inl hge
    · rcases hx with ⟨k1,σ1,l1,hk1,hL1,e,_⟩ | ⟨k1,hk1,hO1,hb1,_⟩
      · exfalso
        obtain ⟨i1,hi1⟩:=hkeys k1 hk1
        have hmi:isM s.ps i1=true:=by
          have hgen:∀ (ps:List Par) (ms:List (Nat×Nat)) (i k:Nat),keyAt ps ms i=some k->isM ps i=true:=by
            intro ps
            induction ps with
            | nil=>intro ms i k e;cases e
            | cons p ps ih=>
              intro ms i k e
              cases p with
              | v _ _=>cases i with
                | zero=>cases e
                | succ i=>exact ih ms i k e
              | m _=>cases i with
                | zero=>rfl
                | succ i=>cases ms with
                  | nil=>cases e
                  | cons q ms=>exact ih ms i k e
          exact hgen _ _ _ _ hi1
        obtain ⟨l',q3⟩:=isM_inoutAt (ls:=osX.drop s.nres) hmi
        have hL:stX.L i1=some (0,l'):=by
          rw [<-hexit]
          show (match inoutAt s.ps (osX.drop s.nres) i1 with | some l=>some (0,l) | none=>none)=_
          rw [q3]
        have eρ:g'.ρ i1=g.ρ k1:=by rw [hρ i1 hmi];unfold callG;simp only [hi1]
        have:=hX.blkL _ b i1 _ q2 hb hL
        rw [eρ] at this
        exact this e.symm
      · exact .inr ⟨k1,inGone k1 hk1 (fun e=>by rw [e,h.blk0] at hb1;cases hb1),hO1,hb1⟩
  · obtain ⟨i,E1,e1,rfl,q1,q2⟩:=labX k hk
    obtain ⟨i',E2,e2,rfl,q3,q4⟩:=labX k' hk'
    rw [backG_new] at hb hb'
    have:=hX.blkI _ _ b q2 q4 hb hb'
    injection this with _ e
    rw [e]
  · obtain ⟨i,q1,q2⟩:=inout_locs (argsP_lens hargs) hm
    obtain ⟨tys,hi⟩:=isM_iff.1 (inoutAt_isM q2)
    obtain ⟨x,_,k2,σ2,l2,_,r2,_,_,r5⟩:=hper i _ hi
    rw [q1] at r5
    cases r5
    rw [hn] at r2;cases r2
end
section
variable {P : Program} {E : Env} {F : Fr} {g g' : Gh} {st : PSt} {a : Act} {w w' : World} {o : Oper} {R : Type} {C : Upd -> Option R} {r : R} {v : Value}
theorem flat_rep {w w':World} {C C':Com}:∀ {t:Ty} {x:t.D} {cs:List Value},flatT t=true->RepD w C t x cs->RepD w' C' t x cs
 | .int _,_,_,_,h=>h
 | .bool,_,_,_,h=>h
 | .str,_,_,_,h=>h
 | .flo _,_,_,_,h=>h
 | .cpx _,_,_,_,h=>h
 | .err,_,_,_,h=>h
 | .un,_,_,_,h=>h
 | .sl e,_,_,hf,_=>by cases hf
 | .arr n e,l,cs,hf,h=>⟨h.1,h.2.1,fun i x hx=>flat_rep (t:=e) hf (h.2.2 i x hx)⟩
 | .pr a b,x,cs,hf,h=>by
  have hf:(flatT a&&flatT b)=true:=hf
  rw [Bool.and_eq_true] at hf
  obtain ⟨c1,c2,h1,h2,h3⟩:=h
  exact ⟨c1,c2,h1,flat_rep hf.1 h2,flat_rep hf.2 h3⟩
def lendR (g:Gh) (st:PSt) (K:List Nat):Com:=fun b o=>∃ k σ ls,hasN K k=true /\ st.L k=some (σ,ls) /\ b=(g.ρ k).1 /\ (g.ρ k).2<=o /\ o < (g.ρ k).2+sizeLs ls
def lendG (g:Gh) (st:PSt) (K:List Nat):Gh:=⟨fun b o=>g.C b o \/ lendR g st K b o,g.blk,g.ρ,g.H⟩
def lendB (g:Gh) (st:PSt) (K:List Nat) (g':Gh):Gh:=⟨fun b o=>g'.C b o /\ ¬ lendR g st K b o,g'.blk,g'.ρ,g'.H⟩
theorem lend_fact (h:MRel F g st (tm a) w) {K:List Nat} {b o:Nat} (hR:lendR g st K b o):¬ g.C b o /\ Wr F b o /\ b < w.heap.size:=by
 obtain ⟨k,σ,ls,_,hL,rfl,h1,h2⟩:=hR
 obtain ⟨cur,T,hc,_,_,hw,_⟩:=h.locals k σ ls hL
 exact ⟨(hw o h1 h2).1,(hw o h1 h2).2,lt_of_cells hc⟩
theorem lend_tok (h:MRel F g st (tm a) w) {K:List Nat} {b o:Nat} {k:Tok} (hO:st.O k=true) (hb:g.blk k=some b):¬ lendR g st K b o:=fun ⟨j,σ,ls,_,hL,e,_⟩=>h.blkL k b j _ hO hb hL e.symm
theorem lend_loc (h:MRel F g st (tm a) w) {K:List Nat} {j o:Nat} {x:Nat×List Leaf} (hL:st.L j=some x) (hj:hasN K j=false):¬ lendR g st K (g.ρ j).1 o:=fun ⟨k,σ,ls,hk,hL',e,_⟩=>by
 rw [h.ρI j k _ _ hL hL' e,hk] at hj
 cases hj
theorem lend_kp (h:MRel F g st (tm a) w) {K:List Nat} {b:Nat} (hb:∀ o,¬ lendR g st K b o):Kp g w (lendG g st K) w b:=⟨rfl,fun o=>⟨fun hc=>hc.elim id fun hR=>(hb o hR).elim,.inl⟩⟩
theorem lend_rel (K ts:List Nat) (h:MRel F g st (tm a) w) (hok:∀ i,hasN ts i=true->rowOk st.L (st.φ i)=true):MRel F (lendG g st K) (lendSt K ts st) (tm a) w:=by
 have G:Gw w g.C w (lendG g st K).C:=fun ad u hc hC=>⟨hc,.inl hC⟩
 have hLv:∀ k,Lives g w st.O (lendG g st K) w st.O k:=fun k hO=>⟨hO,rfl,fun b hb=>lend_kp h fun o=>lend_tok h hO hb⟩
 have hLs:∀ k x,(lendSt K ts st).L k=some x->(hasN K k=false /\ st.L k=some x) \/ (x=(0,[]) /\ ∃ y,st.L k=some y):=fun k x hL=>by
  have hL:(match hasN K k with | true=>(match st.L k with | some _=>some (0,[]) | none=>none) | false=>st.L k)=some x:=hL
  split at hL
  ·split at hL
   ·injection hL with hL
    exact .inr ⟨hL.symm,_,by assumption⟩
   ·cases hL
  ·exact .inl ⟨by assumption,hL⟩
 have hLy:∀ k x,(lendSt K ts st).L k=some x -> ∃ y,st.L k=some y:=fun k x hL=>(hLs k x hL).elim (fun h1=>⟨_,h1.2⟩) fun h1=>h1.2
 refine {
  fr:={
   size:=h.fr.size
   os:=h.fr.os
   tape:=h.fr.tape
   output:=h.fr.output
   old:=h.fr.old
   shape:=h.fr.shape
   com:=fun b o hlt hx=>⟨fun hc=>hc.elim (h.fr.com b o hlt hx).1 fun hR=>?_,fun hc=>.inl ((h.fr.com b o hlt hx).2 hc)⟩
   mono:=fun b o hc=>.inl (h.fr.mono b o hc)
   lim:=fun b o hc=>hc.elim (h.fr.lim b o) fun hR=>(lend_fact h hR).2.2 }
  slots:=fun i=>?_
  locals:=fun k σ ls hL=>?_
  hist:=fun k σ ls hL hσ=>(hLs k _ hL).elim (fun h1=>h.hist k σ ls h1.2 hσ) fun h1=>absurd (congrArg Prod.fst h1.1) hσ
  kn:=h.kn
  sp:=fun i t want ag ls hi=>h.sp i t want ag ls ?_
  fresh:=fun d hd=>?_
  locL:=fun i k hk=>?_
  blk0:=h.blk0
  blkI:=h.blkI
  blkL:=fun k b j x hO hb hL=>(hLy j _ hL).elim fun y hy=>h.blkL k b j y hO hb hy
  blkS:=h.blkS
  blkW:=h.blkW
  ρI:=fun j j' x x' hL hL'=>(hLy j _ hL).elim fun y hy=>(hLy j' _ hL').elim fun y' hy'=>h.ρI j j' y y' hy hy' }
 ·rcases (lend_fact h hR).2.1 with h1 | h1
  ·omega
  ·exact (hx h1).elim
 ·have hs:=h.slots i
  show RelP F (lendG g st K) w st.O (tm a) (tm a i) (lendPV (hasN ts i) K st.L (st.φ i))
  have gen:RelP F (lendG g st K) w st.O (tm a) (tm a i) (st.φ i):=hs.gw G (fun k _=>hLv k) (fun _ _=>rfl) fun _ _ _ _ _=>rfl
  rcases lendPV_cases (hasN ts i) K st.L (st.φ i) with e | ⟨e,_⟩ | ⟨k,n,tt,σ,m,q,l,hp,hk,hL,hn,e⟩
  ·rw [e];trivial
  ·rw [e];exact gen
  rw [e]
  rw [hp] at hs
  have hn:=hok i hn
  rw [hp] at hn
  have hn:n<=l.length:=by simpa [rowOk,hL] using hn
  obtain ⟨cap,hv,hcap,hmax,_⟩:=hs
  obtain ⟨cur,T,hc,hsz,hrep,hw,_⟩:=h.locals k σ _ hL
  obtain ⟨r1,r2,r3⟩:=repLs_single.1 hrep
  have hsl:sizeLs [Leaf.d (.arr m (.int q)) l]=m:=by
   show m*1+0=_
   omega
  rw [hsl] at hsz hw
  refine ⟨[.slice (some ⟨(g.ρ k).1,(g.ρ k).2,none⟩) n cap],repLs_single.2 ⟨_,n,cap,rfl,?_,hcap,hmax,fun j x hx=>?_⟩,by rw [hv]⟩
  ·show (List.take (α:=Int) n l).length=n
   rw [List.length_take];omega
  ·have hx:(List.take (α:=Int) n l)[j]? = some x:=hx
   rw [List.getElem?_take] at hx
   split at hx
   case isFalse=>cases hx
   rename_i hjn
   have r4:(((cur.toList.drop (g.ρ k).2).take (sizeLs [Leaf.d (.arr m (.int q)) l])).drop (j*1)).take 1=[Value.int q x] /\ (Lit.int q x).wf=true:=r3 j x hx
   have hjm:j < m:=by
    have r1:List.length (α:=Int) l=m:=r1
    omega
   have r5:cur.toList[(g.ρ k).2+j]? = some (.int q x):=by
    have h2:=congrArg (fun z=>z[0]?) r4.1
    simp only [List.getElem?_take,List.getElem?_drop,hsl] at h2
    rw [if_pos (by omega),Nat.mul_one,Nat.add_zero,if_pos hjm] at h2
    exact h2
   refine ⟨_,[.int q x],rfl,rfl,fun j' u' hu'=>?_,rfl,r4.2⟩
   have hj0:j'=0:=by
    have:=(List.getElem?_eq_some_iff.1 hu').1
    simpa using this
   subst hj0
   have hu':some (Value.int q x)=some u':=hu'
   injection hu' with hu'
   subst hu'
   refine ⟨?_,.inr ⟨k,σ,_,hk,hL,rfl,?_,?_⟩⟩
   ·show w.cell? (Addr.add ⟨(g.ρ k).1,(g.ρ k).2,none⟩ (j*1+0))=_
    have:Addr.add ⟨(g.ρ k).1,(g.ρ k).2,none⟩ (j*1+0)=⟨(g.ρ k).1,(g.ρ k).2+j,none⟩:=by
     unfold Addr.add
     split <;> simp_all
    rw [this,cell_at hc]
    simpa using r5
   ·show (g.ρ k).2<=(g.ρ k).2+(j*1+0)
    omega
   ·show (g.ρ k).2+(j*1+0) < (g.ρ k).2+sizeLs [Leaf.d (.arr m (.int q)) l]
    rw [hsl]
    omega
 ·rcases hLs k _ hL with ⟨h1,h2⟩ | ⟨h1,y,h2⟩
  ·exact (h.locals k σ ls h2).gw (O':=st.O) G (fun k' E e x _=>hLv k') (lend_kp h fun o=>lend_loc h h2 h1)
  ·have e:ls=[]:=congrArg Prod.snd h1
   subst e
   obtain ⟨cur,T,q1,q2,_⟩:=h.locals k y.1 y.2 h2
   refine ⟨cur,T,q1,?_,?_,fun o h3 h4=>?_,fun o h4=>?_⟩
   ·show (g.ρ k).2+0<=cur.size
    omega
   ·show ((cur.toList.drop (g.ρ k).2).take 0)=[]
    rfl
   ·have h4:o < (g.ρ k).2+0:=h4
    have h3:(g.ρ k).2<=o:=h3
    omega
   ·obtain ⟨cur2,T2,q3,_,_,_,q4⟩:=h.locals k y.1 y.2 h2
    rw [q1] at q3
    injection q3 with q3
    have h4:o < (g.ρ k).2+0:=h4
    have eT:T.2=T2.2:=by
     injection q3
    show Thaw T.2 o
    rw [eT]
    exact q4 o (by omega)
 ·have hi:lendPV (hasN ts i) K st.L (st.φ i)=_:=hi
  rcases lendPV_cases (hasN ts i) K st.L (st.φ i) with e | ⟨e,_⟩ | ⟨k,n,tt,σ,m,q,l,hp,hk,hL,hn,e⟩
  ·rw [e] at hi;cases hi
  ·rw [e] at hi;exact hi
  ·rw [e] at hi;cases hi
 ·obtain ⟨f1,f2,f3,f4⟩:=h.fresh d hd
  refine ⟨fun i=>?_,fun k σ ls hL=>(hLs k _ hL).elim (fun h1=>f2 k σ ls h1.2) fun h1=>(by rw [show ls=[] from congrArg Prod.snd h1.1];rfl),f3,?_⟩
  ·have:=f1 i
   show mentP d (lendPV (hasN ts i) K st.L (st.φ i))=false
   rcases lendPV_cases (hasN ts i) K st.L (st.φ i) with e | ⟨e,_⟩ | ⟨k,n,tt,σ,m,q,l,hp,hk,hL,hn,e⟩
   ·rw [e];rfl
   ·rw [e];exact this
   ·rw [e];rfl
  ·show (match hasN K d with | true=>(match st.L d with | some _=>some (0,[]) | none=>none) | false=>st.L d)=none
   rw [f4]
   split <;> rfl
 ·have hk:k∈keyP (lendPV (hasN ts i) K st.L (st.φ i)):=hk
  obtain ⟨k1,k2⟩:k∈keyP (st.φ i) /\ hasN K k=false:=by
   rcases lendPV_cases (hasN ts i) K st.L (st.φ i) with e | ⟨e,e2⟩ | ⟨k',n,tt,σ,m,q,l,hp,hk',hL,hn,e⟩
   ·rw [e] at hk;cases hk
   ·rw [e] at hk;exact ⟨hk,e2 k hk⟩
   ·rw [e] at hk;cases hk
  show (match hasN K k with | true=>(match st.L k with | some _=>some (0,[]) | none=>none) | false=>st.L k).isSome=true
  rw [k2]
  exact h.locL i k k1
theorem knB_cases (kn:List (Nat×Bool)) (x:Operand) (p:PV):knB kn x p=p \/ ∃ b,knB kn x p=pbool b /\ ∃ b',p=pbool b':=by
 unfold knB
 split
 ·split
  ·split
   ·exact .inr ⟨_,rfl,_,rfl⟩
   ·exact .inl rfl
  ·exact .inl rfl
 ·exact .inl rfl
theorem knB_fix {kn:List (Nat×Bool)} {x:Operand} {p:PV} (h:∀ b,p≠pbool b):knB kn x p=p:=by
 rcases knB_cases kn x p with e | ⟨b,_,b',e⟩
 ·exact e
 ·exact (h b' e).elim
theorem lend_ev {kn:List (Nat×Bool)} {φ:Nat->PV} {K ts:List Nat} {L:Nat->Option (Nat×List Leaf)} (x:Operand):evK kn (fun i=>lendPV (hasN ts i) K L (φ i)) x=lendX K ts L x (evK kn φ x):=by
 have knw:∀ b ag ls,lendPV b K L (knB kn x (.w ag ls))=knB kn x (.w ag ls):=fun b0 ag ls=>by
  rcases knB_cases kn x (.w ag ls) with e | ⟨b,e,_⟩
  ·rw [e];rfl
  ·rw [e];rfl
 cases x with
 | tmp t=>
  show (match lendPV (hasN ts t) K L (φ t) with | .spec j want ag ls=>(match knows kn j with | some b=>(match bEq b want with | true=>knB kn (.tmp t) (.w ag ls) | false=>.raw undef) | none=>.dead) | p=>knB kn (.tmp t) p)=lendPV (hasN ts t) K L (match φ t with | .spec j want ag ls=>(match knows kn j with | some b=>(match bEq b want with | true=>knB kn (.tmp t) (.w ag ls) | false=>.raw undef) | none=>.dead) | p=>knB kn (.tmp t) p)
  cases hp:φ t with
  | spec j want ag ls=>
   show (match knows kn j with | some b=>(match bEq b want with | true=>knB kn (.tmp t) (.w ag ls) | false=>.raw undef) | none=>.dead)=lendPV (hasN ts t) K L (match knows kn j with | some b=>(match bEq b want with | true=>knB kn (.tmp t) (.w ag ls) | false=>.raw undef) | none=>.dead)
   split
   ·split
    ·exact (knw _ ag ls).symm
    ·rfl
   ·rfl
  | w ag ls=>exact (knw _ ag ls).symm
  | row k n tt=>
   show _=lendPV (hasN ts t) K L (knB kn (.tmp t) (.row k n tt))
   rw [knB_fix (fun b e=>by cases e)]
   rcases lendPV_cases (hasN ts t) K L (.row k n tt) with e | ⟨e,_⟩ | ⟨k',n',_,σ,m,q,l,_,_,_,_,e⟩
   ·rw [e];rfl
   ·rw [e];rfl
   ·rw [e];rfl
  | loc k f=>
   show _=lendPV (hasN ts t) K L (knB kn (.tmp t) (.loc k f))
   rw [knB_fix (fun b e=>by cases e)]
   rcases lendPV_cases (hasN ts t) K L (.loc k f) with e | ⟨e,_⟩ | ⟨k',n',_,σ,m,q,l,h,_⟩
   ·rw [e];rfl
   ·rw [e];rfl
   ·cases h
  | locE k f e j s=>
   show _=lendPV (hasN ts t) K L (knB kn (.tmp t) (.locE k f e j s))
   rw [knB_fix (fun b e=>by cases e)]
   rcases lendPV_cases (hasN ts t) K L (.locE k f e j s) with e | ⟨e,_⟩ | ⟨k',n',_,σ,m,q,l,h,_⟩
   ·rw [e];rfl
   ·rw [e];rfl
   ·cases h
  | tup _=>rfl
  | elem _=>rfl
  | raw _=>rfl
  | dead=>rfl
 | const v=>rfl
 | global _=>rfl
 | func _=>rfl
theorem flat_leaf {F:Fr} {g1 g2:Gh} {w:World} {O':Tok->Bool} {born:List Tok} {l:Leaf} {cs:List Value} (hf:flatL born l=true) (hlive:∀ k∈born,O' k=true) (hb:g2.blk=g1.blk) (hC:∀ k∈born,∀ b,g1.blk k=some b -> ∀ o,g1.C b o↔g2.C b o) (h:RepL F g1 w O' l cs):RepL F g2 w O' l cs:=by
  cases l with
  | d t x=>exact flat_rep hf h
  | own k E0 e l=>
    have hf:(flatT e&&hasT born k)=true:=hf
    rw [Bool.and_eq_true] at hf
    have hk:=hasT_iff.1 hf.2
    obtain ⟨hrd,hown⟩:=h
    obtain ⟨v,rfl,hO⟩:=hown (hlive k hk)
    have hO':OwnR F g2 w k E0 e l v:=by
      rcases hO with ⟨a0,h1,h2,h3⟩ | ⟨b,cap,cur,h1,h2,h3,h4,h5,h6,h7,h8,h9⟩
      · exact .inl ⟨a0,h1,h2,by rw [hb];exact h3⟩
      · exact .inr ⟨b,cap,cur,h1,by rw [hb];exact h2,h3,h4,h5,h6,fun i x hx=>flat_rep hf.1 (h7 i x hx),fun o=>((hC k hk b h2 o).symm).trans (h8 o),h9⟩
    refine ⟨?_,fun _=>⟨v,rfl,hO'⟩⟩
    obtain ⟨a1,n,c,e1,e2,e3,e4,e5⟩:=hrd
    refine ⟨a1,n,c,e1,e2,e3,e4,fun i x hx=>?_⟩
    obtain ⟨ad,us,f1,f2,f3,f4⟩:=e5 i x hx
    refine ⟨ad,us,f1,f2,fun j u hu=>⟨(f3 j u hu).1,?_⟩,flat_rep hf.1 f4⟩
    rcases hO with ⟨a0,h1,h2,h3⟩ | ⟨b,cap,cur,h1,h2,_⟩
    · rw [h2] at hx;cases hx
    · have e : Value.slice (some ⟨b, 0, none⟩) (List.length l) cap = .slice a1 n c := by
        have e1:[v]=[Value.slice a1 n c]:=e1
        injection e1 with e1
        rw [<-h1,e1]
      injection e with e _ _
      rw [f1] at e
      injection e with e
      subst e
      exact (hC k hk b h2 _).1 (f3 j u hu).2
theorem flat_leaves {F:Fr} {g1 g2:Gh} {w:World} {O':Tok->Bool} {born:List Tok} (hlive:∀ k∈born,O' k=true) (hb:g2.blk=g1.blk) (hC:∀ k∈born,∀ b,g1.blk k=some b -> ∀ o,g1.C b o↔g2.C b o):∀ {ls:List Leaf} {cs:List Value},ls.all (flatL born)=true->RepLs F g1 w O' ls cs->RepLs F g2 w O' ls cs
 | [],_,_,h=>h
 | l::ls,cs,hf,h=>by
  rw [List.all_cons,Bool.and_eq_true] at hf
  obtain ⟨c1,c2,rfl,h1,h2⟩:=h
  exact ⟨c1,c2,rfl,flat_leaf hf.1 hlive hb hC h1,flat_leaves hlive hb hC hf.2 h2⟩
theorem flat_tup {F:Fr} {g1 g2:Gh} {w:World} {O':Tok->Bool} {born:List Tok} (hlive:∀ k∈born,O' k=true) (hb:g2.blk=g1.blk) (hC:∀ k∈born,∀ b,g1.blk k=some b -> ∀ o,g1.C b o↔g2.C b o):∀ {us:List Value} {xs:List (Bool×List Leaf)},xs.all (fun x=>x.2.all (flatL born))=true->RelT F g1 w O' us xs->RelT F g2 w O' us xs
 | [],[],_,_=>trivial
 | u::us,x::xs,hf,h=>by
  rw [List.all_cons,Bool.and_eq_true] at hf
  obtain ⟨⟨cs,h1,h2⟩,h3⟩:=h
  exact ⟨⟨cs,flat_leaves hlive hb hC hf.1 h1,h2⟩,flat_tup hlive hb hC hf.2 h3⟩
 | [],_::_,_,h=>h.elim
 | _::_,[],_,h=>h.elim
theorem lend_back (K ts:List Nat) (h:MRel F g st (tm a) w) {u:Upd} (hU:OutR F (lendG g st K) (lendSt K ts st) w u v g' w') (hC:lendC C u=some r) :
  C u=some r /\ OutR F g st w u v (lendB g st K g') w':=by
 obtain ⟨hc,hloc,hflat⟩:C u=some r /\ u.loc=[] /\ (match u.val with | .w _ ls=>ls.all (flatL u.born) | .tup xs=>xs.all (fun x=>x.2.all (flatL u.born)) | _=>false)=true:=by
  unfold lendC at hC
  split at hC
  ·split at hC
   ·exact ⟨hC,by assumption,by simp [*]⟩
   ·cases hC
  ·split at hC
   ·exact ⟨hC,by assumption,by simp [*]⟩
   ·cases hC
  ·cases hC
 refine ⟨hc,?_⟩
 have hnb:∀ k∈u.born,∀ b,g'.blk k=some b -> ∀ o,¬ lendR g st K b o:=fun k hk b hb o hR=>by
  rcases (hU.born k b hk hb).1 with h1 | ⟨k0,_,h2,h3⟩
  ·have:=(lend_fact h hR).2.2
   omega
  ·exact lend_tok h h2 h3 hR
 have hKp:∀ b,Kp (lendG g st K) w g' w' b->Kp g w (lendB g st K g') w' b:=fun b hk=>⟨hk.1,fun o=>⟨fun hx=>((hk.2 o).1 hx.1).elim id fun hR=>(hx.2 hR).elim,fun hx=>⟨(hk.2 o).2 (.inl hx),fun hR=>(lend_fact h hR).1 hx⟩⟩⟩
 have hρ:∀ k,g'.ρ k=g.ρ k:=fun k=>by
  rcases hU.ρn k with h1 | ⟨_,ls,h2⟩
  ·exact h1
  ·rw [hloc] at h2;cases h2
 exact {
  fr:={
   size:=hU.fr.size
   os:=hU.fr.os
   tape:=hU.fr.tape
   output:=hU.fr.output
   old:=hU.fr.old
   shape:=hU.fr.shape
   com:=fun b o hlt hx=>⟨fun hc=>(hU.fr.com b o hlt hx).1 hc.1,fun hc=>⟨(hU.fr.com b o hlt hx).2 hc,fun hR=>(lend_fact h hR).1 (h.fr.mono b o hc)⟩⟩
   mono:=fun b o hc=>⟨hU.fr.mono b o hc,fun hR=>(lend_fact h hR).1 (h.fr.mono b o hc)⟩
   lim:=fun b o hc=>hU.fr.lim b o hc.1 }
  gw:=fun ad u hc hC=>⟨(hU.gw ad u hc (.inl hC)).1,(hU.gw ad u hc (.inl hC)).2,fun hR=>(lend_fact h hR).1 hC⟩
  live:=fun k hk hO=>by
   obtain ⟨h1,h2,h3⟩:=hU.live k hk hO
   exact ⟨h1,h2,fun b hb=>hKp b (h3 b hb)⟩
  ρ:=fun k x _=>hρ k
  ρn:=fun k=>.inl (hρ k)
  H:=hU.H
  val:=fun tmf=>by
   have hv:=hU.val tmf
   have hlive:∀ k∈u.born,putO st.O u.born u.gone k=true:=fun k hk=>putO_true.2 (.inl hk)
   have hCC:∀ k∈u.born,∀ b,g'.blk k=some b -> ∀ o,g'.C b o↔(lendB g st K g').C b o:=fun k hk b hb o=>⟨fun hx=>⟨hx,hnb k hk b hb o⟩,fun hx=>hx.1⟩
   cases hu:u.val with
   | w ag ls=>
    rw [hu] at hv hflat
    obtain ⟨cs,h1,h2⟩:=hv
    exact ⟨cs,flat_leaves (g1:=g') (g2:=lendB g st K g') hlive rfl hCC hflat h1,h2⟩
   | tup xs=>
    rw [hu] at hv hflat
    obtain ⟨us,h1,h2⟩:=hv
    exact ⟨us,h1,flat_tup (g1:=g') (g2:=lendB g st K g') hlive rfl hCC hflat h2⟩
   | _=>rw [hu] at hflat;cases hflat
  nospec:=hU.nospec
  locs:=fun k ls hk=>by rw [hloc] at hk;cases hk
  rest:=fun k x hL hk=>by
   cases hj:hasN K k with
   | false=>exact hKp _ (hU.rest k x (by show (match hasN K k with | true=>(match st.L k with | some _=>some (0,[]) | none=>none) | false=>st.L k)=some x;rw [hj];exact hL) hk)
   | true=>exact hKp _ (hU.rest k (0,[]) (by show (match hasN K k with | true=>(match st.L k with | some _=>some (0,[]) | none=>none) | false=>st.L k)=some (0,[]);rw [hj,hL]) hk)
  blk0:=hU.blk0
  born:=hU.born
  bornI:=hU.bornI
  new:=fun k ls hk=>by rw [hloc] at hk;cases hk }
theorem tmp_ok {x:Operand} {i:Nat} (hx:(match x with | .tmp t=>some t | _=>none)=some i) (h:rowOk st.L (evK st.kn st.φ x)=true):rowOk st.L (st.φ i)=true:=by
 cases x with
 | tmp t=>
  have e:t=i:=by
   have hx:some t=some i:=hx
   injection hx
  subst e
  cases hp:st.φ t with
  | row k n tt=>
   have h2:evK st.kn st.φ (.tmp t)=.row k n tt:=by
    show (match st.φ t with | .spec j want ag ls=>(match knows st.kn j with | some b=>(match bEq b want with | true=>knB st.kn (.tmp t) (.w ag ls) | false=>.raw undef) | none=>.dead) | p=>knB st.kn (.tmp t) p)=_
    rw [hp]
    exact knB_fix fun b e=>by cases e
   rw [h2] at h
   exact h
  | _=>rfl
 | _=>cases hx
theorem go_appT (h:MRel F g st (tm a) w) {x y:Operand} {t u:TypeId} (hop:o.op=.call { callee:=.builtin .append,args:=#[x,y],argTypes:=#[t,u] }) {p q:PV} (hx:RelP F g w st.O (tm a) (a.eval x) p) (hy:RelP F g w st.O (tm a) (a.eval y) q)
  (htight:∃ ad n,a.eval x=.slice (some ad) n n) (hv:appT E.P o t u p q C=some r):Goes E F g st a w o C r:=by
 unfold appT at hv
 split at hv
 case h_2=>cases hv
 rename_i e d hu hd
 split at hv
 case h_2=>cases hv
 rename_i ty l i hsl hi
 split at hv
 case h_2=>cases hv
 rename_i z m hz hm
 split at hm
 case h_2=>cases hm
 rename_i hst
 simp only [Bool.and_eq_true,Bool.not_eq_true'] at hst
 have hut:t=u:=by simpa using hst.1
 subst hut
 split at hv
 case h_2=>cases hv
 rename_i hsz
 simp only [Bool.and_eq_true] at hsz
 obtain ⟨hc,hv⟩:=chk_some hv
 simp only [Bool.and_eq_true,decide_eq_true_eq,Nat.blt_eq] at hc
 obtain ⟨⟨hmpos,hbytes⟩,h63⟩:=hc
 have hsize:i.size=ty.size:=by simpa using hsz.1.1
 have hpos:0 < i.size:=by have:=hsz.1.2;rw [Nat.blt_eq] at this;exact this
 have hzs:z.cells.size=i.size:=by simpa using hsz.2
 have hxr:=slP_rep hsl hx
 have hyr:RepD w g.C (.sl ty) m [a.eval y]:=by
  rcases tailP_rel hm hy with ⟨s,hs,rfl,hl,_⟩ | hr
  ·exfalso
   have hnot:=hst.2
   unfold tailP at hm
   have:∃ q',strP q=some q':=by
    cases hq:strP q with
    | some q'=>exact ⟨q',rfl⟩
    | none=>
     rw [hq] at hm
     simp only at hm
     split at hm
     ·rename_i e' l' hsl'
      obtain ⟨_,_,_,e1,_⟩:=slP_rep hsl' hy
      rw [hs] at e1;simp at e1
     ·split at hm
      ·have hy':a.eval y=.slice none 0 0:=hy
       rw [hs] at hy';cases hy'
      ·cases hm
   obtain ⟨q',hq⟩:=this
   unfold strP at hq
   split at hq
   ·cases hnot
   ·cases hq
  ·exact hr
 obtain ⟨ad,n,hxe⟩:=htight
 rw [hxe] at hxr
 have hxr0:=hxr
 obtain ⟨_,_,_,x1,x2,_⟩:=hxr0
 have hn:l.length=n:=by
  simp only [List.cons.injEq,Value.slice.injEq,and_true] at x1
  rw [x1.2.1];exact x2
 have hyr0:=hyr
 obtain ⟨ya,yn,yc,y1,y2,_,_,y5⟩:=hyr0
 have hye:a.eval y=.slice ya yn yc:=by simpa using y1
 have hmn:m.length=yn:=y2
 obtain ⟨yad,rfl⟩:∃ yad,ya=some yad:=by
  obtain ⟨ad',us,e1,_⟩:=y5 0 _ (List.getElem?_eq_getElem hmpos)
  exact ⟨ad',e1⟩
 rw [hye] at hyr
 obtain ⟨olds,o1,o2,o3,o4⟩:=slice_cells (e:=ty) (by omega) hxr
 obtain ⟨news,n1,n2,n3,n4⟩:=slice_cells (e:=ty) (by omega) hyr
 obtain ⟨v',w',hr,how,hgr⟩:=run_append_arg_grows (P:=E.P) w t o.type e i z ty.size i.bytes hu hi hz hsize rfl (by rw [hzs,hsize]) (by omega) ad n n olds (by rw [o1,hn]) o2 yad yn yc news (by rw [n1,hmn]) n2 (by omega) (by omega) (by rw [<-hn,<- hmn];exact hbytes)
 obtain ⟨cb,hrb⟩:=run_builtin (P:=E.P) (w:=w) (f:=a.eval) hop
 have hres:(execOp a.eval o).run E.P w=.ok (.value v') w':=by
  rw [hrb]
  simp [builtin,hxe,hye,hr]
 rcases how.2 with ⟨_,hz0⟩ | ⟨B,cap,cur,rfl,hB,hb,hlc,hmax,hcs,htake⟩
 ·omega
 ·have hBlt:B < w'.heap.size:=lt_of_cells hb
  have hll:(l++m).length=n+yn:=by rw [List.length_append,hn,hmn]
  have hU:=out_newRow (F:=F) (d:=d) (B:=B) (cap:=cap) (E0:=e) (l:=l++m) (cur:=cur) (gs:=[]) (w':=w') h hB hBlt hgr.size (fun b hb=>hgr.block b hb (by simp)) hgr.os hgr.tape hgr.output hb (by rw [hll];exact hlc) hmax hcs
   (rows_app o1 n1 (by rw [hn,hmn];exact htake) o4 n4)
  rw [hll] at hU
  exact goes_val hres hU hv
theorem go_append (h:MRel F g st (tm a) w) {args:Array Operand} {ts:Array TypeId} (hop:o.op=.call { callee:=.builtin .append,args:=args,argTypes:=ts }) (hv:pvU E o st (evK st.kn st.φ) C=some r):Goes E F g st a w o C r:=by
 simp only [pvU,hop] at hv
 unfold bltP at hv
 split at hv
 ·cases hv
 case h_3=>cases hv
 rename_i x y t u hargs hts
 obtain rfl:args = #[x,y]:=by cases args;simp_all
 obtain rfl:ts = #[t,u]:=by cases ts;simp_all
 simp only at hv
 unfold appL at hv
 split at hv
 ·exact go_appP h hop hv
 ·rename_i k K _
  obtain ⟨hall,hv⟩:=chk_some hv
  rw [Bool.and_eq_true] at hall
  have hok:∀ i,hasN (tmpsOf [x,y]) i=true->rowOk st.L (st.φ i)=true:=fun i hi=>by
   obtain ⟨z,hz,hzi⟩:=List.mem_filterMap.1 (hasN_iff.1 hi)
   have hz1:rowOk st.L (evK st.kn st.φ z)=true:=by
    simp only [List.mem_cons,List.not_mem_nil,or_false] at hz
    rcases hz with rfl | rfl
    ·exact hall.1
    ·exact hall.2
   exact tmp_ok hzi hz1
  have hrel:=lend_rel (k::K) (tmpsOf [x,y]) h hok
  have ex:lendX (k::K) (tmpsOf [x,y]) st.L x (evK st.kn st.φ x)=evK (lendSt (k::K) (tmpsOf [x,y]) st).kn (lendSt (k::K) (tmpsOf [x,y]) st).φ x:=(lend_ev x).symm
  have ey:lendX (k::K) (tmpsOf [x,y]) st.L y (evK st.kn st.φ y)=evK (lendSt (k::K) (tmpsOf [x,y]) st).kn (lendSt (k::K) (tmpsOf [x,y]) st).φ y:=(lend_ev y).symm
  rw [ex,ey] at hv
  have back:∀ {N:Act->World->Prop} {Q:Exit->Act->World->Prop},Goes E F (lendG g st (k::K)) (lendSt (k::K) (tmpsOf [x,y]) st) a w o (lendC C) r->(∀ v w' g' u,C u=some r->OutR F g st w u v g' w'->N (a.put o.dst v) w')->o.wp E.P a w N Q:=fun {N Q} hg hN=>hg N Q fun v w' g' u hC hU=>by
   obtain ⟨h1,h2⟩:=lend_back (k::K) _ h hU hC
   exact hN v w' _ u h1 h2
  split at hv
  ·rename_i hrow
   split at hv
   ·rename_i htt
    intro N Q hN
    refine back ?_ hN
    refine go_appT hrel hop (ev_rel hrel x) (ev_rel hrel y) ?_ hv
    have hx:=ev_rel h x
    cases hp:evK st.kn st.φ x with
    | row k' n tt=>
     rw [hp] at hx htt
     obtain ⟨cap,q1,_,_,q4⟩:=hx
     have htt:tt=true:=htt
     exact ⟨_,n,by rw [q1,q4 htt]⟩
    | _=>rw [hp] at hrow;cases hrow
   ·cases hv
  ·intro N Q hN
   exact back (go_appP hrel hop hv) hN
theorem go_add (h:MRel F g st (tm a) w) {f:FuncId} {fn:Func} {args:Array Operand} {ts:Array TypeId} (hop:o.op=.call { callee:=.value (.func f),args:=args,argTypes:=ts }) (hfn:E.P.funcs[f]? = some fn) (hadd:isAdd fn=true) (x y z:Int)
  (hargs:args.toList.map (evK st.kn st.φ)=[PV.w false [.d (.int .u64) x],.w false [.d (.int .u64) y],.w false [.d (.int .u64) z]]) (hv:addP x y z C=some r):Goes E F g st a w o C r:=by
 unfold addP at hv
 obtain ⟨hz,hv⟩:=chk_some hv
 have hz:z=0:=beq_iff_eq.1 hz
 subst hz
 unfold isAdd at hadd
 simp only [Bool.and_eq_true,beq_iff_eq] at hadd
 obtain ⟨⟨hname,horig⟩,hbody⟩:=hadd
 obtain ⟨al⟩:=args
 have hargs:al.map (evK st.kn st.φ)=[PV.w false [.d (.int .u64) x],.w false [.d (.int .u64) y],.w false [.d (.int .u64) (0:Int)]]:=hargs
 rcases al with _ | ⟨x1,_ | ⟨x2,_ | ⟨x3,_ | ⟨x4,al⟩⟩⟩⟩ <;> try (simp at hargs;done)
 injection hargs with q1 hargs
 injection hargs with q2 hargs
 injection hargs with q3 _
 have r1:=ev_rel h x1
 have r2:=ev_rel h x2
 have r3:=ev_rel h x3
 rw [q1] at r1
 rw [q2] at r2
 rw [q3] at r3
 obtain ⟨e1,f1⟩:=rel_int r1
 obtain ⟨e2,f2⟩:=rel_int r2
 obtain ⟨e3,f3⟩:=rel_int r3
 have b1:0<=x /\ x < 18446744073709551616:=by
  simp [Lit.wf,IntKind.min,IntKind.max,IntKind.signed,IntKind.bits] at f1
  omega
 have b2:0<=y /\ y < 18446744073709551616:=by
  simp [Lit.wf,IntKind.min,IntKind.max,IntKind.signed,IntKind.bits] at f2
  omega
 have ef:a.eval (.func f)=.func (.func f) #[] #[]:=rfl
 have hex:execOp a.eval o=callFunc f #[.int .u64 x,.int .u64 y,.int .u64 0]:=by
  unfold execOp
  simp [hop,resolve,Deferred.ofValue,invoke,ef,e1,e2,e3]
 have hfind:Extern.find fn=some add64Entry:=by
  unfold Extern.find
  rw [hname,horig]
  kernel_rfl
 have hnext:Extern.findNext fn=none:=by
  unfold Extern.findNext
  rw [hname,horig]
  kernel_rfl
 refine goes_same h (v:=.tuple #[.int .u64 ((x+y) % 18446744073709551616),.int .u64 ((x+y) / 18446744073709551616)]) ?_ ?_ (fun _ _ _ _ e=>by cases e) hv
 ·rw [hex,run_callFunc_extern hfn (by rw [hname];decide) hbody hnext hfind,run_add64 x y 0 b1.1 b2.1 (by omega) (by omega)]
  simp only [Result.andThen,Int.add_zero]
 ·refine ⟨_,rfl,⟨[_],repLs_single.2 ⟨rfl,?_⟩,rfl⟩,⟨[_],repLs_single.2 ⟨rfl,?_⟩,rfl⟩,trivial⟩
  ·simp [Lit.wf,IntKind.min,IntKind.max,IntKind.signed,IntKind.bits]
   omega
  ·simp [Lit.wf,IntKind.min,IntKind.max,IntKind.signed,IntKind.bits]
   omega
theorem go_extP (h:MRel F g st (tm a) w) {f:FuncId} {fn:Func} {args:Array Operand} {ts:Array TypeId} (hop:o.op=.call { callee:=.value (.func f),args:=args,argTypes:=ts }) (hfn:E.P.funcs[f]? = some fn) (hv:extP fn (args.toList.map (evK st.kn st.φ)) C=some r):Goes E F g st a w o C r:=by
 unfold extP at hv
 split at hv
 ·exact go_add h hop hfn (by assumption) _ _ _ (by assumption) hv
 ·cases hv
end
section
variable {P : Program} {E : Env} {F : Fr} {g g' : Gh} {st : PSt} {a : Act} {w w' : World} {o : Oper} {R : Type} {C : Upd -> Option R} {r : R}
def Env.ok (E:Env) (T:Tab):Prop:=∀ p∈E.fns,SoundFn E.P T p.1 p.2.1 p.2.2
def Env.okF (E:Env) (F:Fr):Prop:=∃ T,E.ok T /\ TabF T F
theorem findF_mem:∀ {l:List (FuncId×(s:Sig)×s.Fn)} {f:FuncId} {x:(s:Sig)×s.Fn},findF l f=some x->(f,x)∈l
 | [],_,_,h=>by cases h
 | (g,y)::l,f,x,h=>by
  unfold findF at h
  split at h
  ·rename_i hb
   have e:g=f:=Nat.eq_of_beq_eq_true hb
   injection h with h
   subst e;subst h
   exact List.mem_cons_self
  ·exact List.mem_cons_of_mem _ (findF_mem h)
theorem run_callFunc {f : FuncId} {fn : Func} (hf : P.funcs[f]? = some fn) (h : (fn.body.isSome && !(fn.name == "runtime.NumGoroutine")) = true) (args : Array Value) (w : World) :
  (callFunc f args).run P w=.ok (.enter f args) w:=by
 simp only [Bool.and_eq_true,Bool.not_eq_true'] at h
 have h1:fn.body≠none:=by intro e;rw [e] at h;simp at h
 have h2 : fn.name ≠ "runtime.NumGoroutine" := by simpa using h.2
 simp [callFunc,hf,h2,h1]
def Kept (g:Gh) (st:PSt) (w:World) (u:Upd) (g':Gh) (w':World):Prop:=(∀ t∈u.born,st.O t=false) /\ (u.loc=[] -> ∀ b,b < w.heap.size->(∀ k,st.O k=true->g.blk k≠some b)->Kp g w g' w' b)
theorem go_callP (hE:E.okF F) (h:MRel F g st (tm a) w) {f:FuncId} {args:Array Operand} {ts:Array TypeId} (hop:o.op=.call { callee:=.value (.func f),args:=args,argTypes:=ts }) {s:Sig} {fn:s.Fn} {fd:Func} (hfind:findF E.fns f=some ⟨s,fn⟩) (hfd:E.P.funcs[f]? = some fd)
    (hbody : (fd.body.isSome && !(fd.name == "runtime.NumGoroutine")) = true) (hv : callP E s fn o.dst args.toList ts.toList st (evK st.kn st.φ) C = some r)
    (N:Act->World->Prop) (Q:Exit->Act->World->Prop) (hN:∀ v w' g' u,C u=some r->OutR F g st w u v g' w'->Kept g st w u g' w'->N (a.put o.dst v) w'):o.wp E.P a w N Q:=by
  unfold callP at hv
  split at hv
  case h_2=>cases hv
  rename_i ls ms hargs
  split at hv
  case h_2=>cases hv
  rename_i ks xs htake
  split at hv
  case h_2=>cases hv
  rename_i hb
  simp only [Bool.and_eq_true] at hb
  obtain ⟨⟨hdt,hdk⟩,hdst⟩:=hb
  obtain ⟨y,hy,hv⟩:=Option.bind_eq_some_iff.1 hv
  split at hv
  case h_2=>cases hv
  rename_i os hos
  cases hd:o.dst with
  | none=>rw [hd] at hdst;cases hdst
  | some d=>
    rw [hd] at hdst hos hv
    have hfr:hasN st.fr d=true:=hdst
    have hfresh:=(h.fresh d hfr).2.2.1
    obtain ⟨lsE,hlsE⟩:=mk_some (lab:=Tok.hd 0) (j:=0) htake
    have hent:∃ stE,entrySt s xs=some stE:=by
      unfold entrySt
      rw [hlsE]
      exact ⟨_,rfl⟩
    obtain ⟨stE,hstE⟩:=hent
    have hrelE:=entry_rel (n0:=fd.ntmps) h hargs htake hdt hdk hstE
    have hlen:=(argsP_facts h hargs).1
    obtain ⟨T,hE,hT⟩:=hE
    have hsound:=hE _ (findF_mem hfind)
    have hcalls:=hsound _ _ stE xs y _ w (args.map a.eval) (tab_call hT h) hstE hy hrelE rfl (fun fd' h'=>by rw [hfd] at h';cases h';rfl) (by simpa using hlen) (fun i=>by
      rw [Array.getD_eq_getD_getElem?,List.getD_eq_getElem?_getD]
      simp)
    have hex:execOp a.eval o=callFunc f (args.map a.eval):=by
      have ef:a.eval (.func f)=.func (.func f) #[] #[]:=rfl
      unfold execOp
      simp [hop,resolve,Deferred.ofValue,invoke,ef]
    unfold Oper.wp
    rw [hex,run_callFunc hfd hbody,Oper.upon_enter]
    refine hcalls.mono fun e w' ⟨us,g',st',he,hul,hst',hrel',hρ⟩=>?_
    subst he
    refine hN _ w' _ _ hv (go_back h hargs htake hdt hdk hrel' hst' hul hρ hos hfresh) ⟨fun t ht=>?_,fun hloc b hb hno=>?_⟩
    · obtain ⟨i,E',e',_,h2⟩:=labs_mem.1 ht
      rw [h2]
      exact hfresh _
    · have hms : ms = [] := by
        cases ms with
        | nil=>rfl
        | cons m ms=>exact absurd hloc (by simp [locsOut])
      refine ⟨(hrel'.fr.kp hb fun o hx=>?_).1,(hrel'.fr.kp hb fun o hx=>?_).2⟩
      all_goals
        rcases hx with ⟨k,σ,l,hk,_⟩ | ⟨k,hk,hO,hbk,_⟩
        · rw [hms] at hk;cases hk
        · exact hno k hO hbk
theorem go_callL (hE:E.okF F) (h:MRel F g st (tm a) w) {f:FuncId} {args:Array Operand} {ts:Array TypeId} (hop:o.op=.call { callee:=.value (.func f),args:=args,argTypes:=ts }) {s:Sig} {fn:s.Fn} {fd:Func} (hfind:findF E.fns f=some ⟨s,fn⟩) (hfd:E.P.funcs[f]? = some fd)
  (hbody : (fd.body.isSome && !(fd.name == "runtime.NumGoroutine")) = true) (hv : callL E s fn o.dst args.toList ts.toList st (evK st.kn st.φ) C = some r) : Goes E F g st a w o C r := by
 intro N Q hN
 have fin:∀ {u:Upd} {v:Value} {g':Gh} {w':World},OutR F g st w u v g' w'->(∀ t∈u.born,st.O t=false)->(∀ d,o.dst=some d->hasN st.fr d=true)->rowC E o.dst st.fr C u=some r->N (a.put o.dst v) w':=fun {u v g' w'} hU hborn hfr hC=>by
  cases hd:o.dst with
  | none=>
   rw [hd] at hC
   rw [<-hd]
   exact hN v w' g' u hC hU
  | some d=>
   rw [hd] at hC
   rw [<-hd]
   obtain ⟨u',g'',h1,h2⟩:=row_out h (fun _=>hborn) hU hC
   exact hN v w' g'' u' h1 h2
 have hdst:∀ {st0:PSt} {ev:Operand->PV} {C0:Upd->Option R},callP E s fn o.dst args.toList ts.toList st0 ev C0=some r->st0.fr=st.fr -> ∀ d,o.dst=some d->hasN st.fr d=true:=fun {st0 ev C0} hv he d hd=>by
  unfold callP at hv
  repeat' split at hv
  all_goals first
   | (cases hv;done)
   | skip
  rename_i hb
  simp only [Bool.and_eq_true] at hb
  have:=hb.2
  rw [hd,he] at this
  exact this
 unfold callL at hv
 split at hv
 ·exact go_callP hE h hop hfind hfd hbody hv N Q fun v w' g' u hC hU hK=>fin hU hK.1 (hdst hv rfl) hC
 ·rename_i k K _
  obtain ⟨hall,hv⟩:=chk_some hv
  have he:(fun x=>lendX (k::K) (tmpsOf args.toList) st.L x (evK st.kn st.φ x))=evK (lendSt (k::K) (tmpsOf args.toList) st).kn (lendSt (k::K) (tmpsOf args.toList) st).φ:=funext fun x=>(lend_ev x).symm
  rw [he] at hv
  have hok:∀ i,hasN (tmpsOf args.toList) i=true->rowOk st.L (st.φ i)=true:=fun i hi=>by
   obtain ⟨x,hx,hxi⟩:=List.mem_filterMap.1 (hasN_iff.1 hi)
   cases x with
   | tmp t=>
    have e:t=i:=by
     have hxi:some t=some i:=hxi
     injection hxi
    subst e
    have h1:=List.all_eq_true.1 hall _ hx
    cases hp:st.φ t with
    | row k n tt=>
     have h2:evK st.kn st.φ (.tmp t)=.row k n tt:=by
      show (match st.φ t with | .spec j want ag ls=>(match knows st.kn j with | some b=>(match bEq b want with | true=>knB st.kn (.tmp t) (.w ag ls) | false=>.raw undef) | none=>.dead) | p=>knB st.kn (.tmp t) p)=_
      rw [hp]
      exact knB_fix fun b e=>by cases e
     rw [h2] at h1
     exact h1
    | _=>rfl
   | _=>cases hxi
  refine go_callP hE (lend_rel (k::K) _ h hok) hop hfind hfd hbody hv N Q fun v w' g' u hC hU hK=>?_
  obtain ⟨h1,h2⟩:=lend_back (k::K) _ h hU hC
  exact fin h2 hK.1 (hdst hv rfl) h1
theorem go_call (hE:E.okF F) (h:MRel F g st (tm a) w) {f:FuncId} {args:Array Operand} {ts:Array TypeId} (hop:o.op=.call { callee:=.value (.func f),args:=args,argTypes:=ts }) (hv:pvU E o st (evK st.kn st.φ) C=some r):Goes E F g st a w o C r:=by
 simp only [pvU,hop] at hv
 split at hv
 ·split at hv
  ·exact go_callL hE h hop (by assumption) (by assumption) (by assumption) hv
  ·cases hv
 ·exact go_extP h hop (by assumption) hv
 ·cases hv
theorem pvU_sound (hE:E.okF F) (h:MRel F g st (tm a) w) (hv:pvU E o st (evK st.kn st.φ) C=some r):Goes E F g st a w o C r:=by
 have hv0:=hv
 cases hop:o.op with
 | move x=>exact go_move h (.inl hop) hv
 | assign x=>exact go_move h (.inr hop) hv
 | nilCheck x=>exact go_nilCheck h hop hv
 | alloc t=>exact go_alloc h hop hv
 | box t x=>exact go_box h hop hv
 | load t x=>exact go_load h hop hv
 | store t x y=>exact go_store h hop hv
 | fieldAddr s x f=>exact go_fieldAddr h hop hv
 | indexAddr t x i=>exact go_indexAddr h hop hv
 | index t x i=>
  by_cases hus:E.P.underlying t=some .string
  ·exact go_indexS h hop hus hv
  ·exact go_indexA h hop hus hv
 | slice t x lo hi mx=>exact go_slice h hop hv
 | field s x f=>exact go_field h hop hv
 | extract x i=>exact go_extract h hop hv
 | build t parts=>exact go_build h hop hv
 | buildSlice t len parts=>exact go_buildSlice h hop hv
 | makeSlice t n c=>exact go_makeSlice h hop hv
 | binOp op t x y uy=>exact go_binOp h hop hv
 | unOp op t x=>exact go_unOp h hop hv
 | convert src dst x=>exact go_convert h hop hv
 | call c=>
  obtain ⟨callee,args,ts⟩:=c
  cases callee with
  | value x=>
   cases x with
   | func f=>exact go_call hE h hop hv
   | tmp _=>simp [pvU,hop] at hv0
   | const _=>simp [pvU,hop] at hv0
   | global _=>simp [pvU,hop] at hv0
  | invoke _ _=>simp [pvU,hop] at hv0
  | builtin b=>
   by_cases h1:b=.len
   ·subst h1;exact go_len h hop hv
   by_cases h2:b=.min
   ·subst h2;exact go_mm h (.inl rfl) hop hv
   by_cases h3:b=.max
   ·subst h3;exact go_mm h (.inr rfl) hop hv
   by_cases h4:b=.append
   ·subst h4;exact go_append h hop hv
   by_cases h5:b=.real
   ·subst h5;exact go_ri h (.inl rfl) hop hv
   by_cases h6:b=.imag
   ·subst h6;exact go_ri h (.inr rfl) hop hv
   by_cases h7:b=.complex
   ·subst h7;exact go_cx h hop hv
   simp only [pvU,hop] at hv0
   unfold bltP at hv0
   split at hv0
   ·cases b <;> first | contradiction | cases hv0
   ·cases b <;> first | contradiction | cases hv0
   ·cases hv0
 | _=>simp [pvU,hop] at hv0
end
section
variable {P : Program} {E : Env} {F : Fr} {g g' : Gh} {st st' : PSt} {a a' : Act} {w w' : World} {o : Oper} {ops : Array Oper} {R : Type} {r : R}
structure AR (F:Fr) (g:Gh) (st:PSt) (a:Act) (w:World):Prop where
 size:a.tmps.size=F.n
 defers:a.defers=[]
 rel:MRel F g st (tm a) w
structure Lft (M:Nat->Prop) (I:Nat->Prop) (g:Gh) (a:Act) (w:World) (g':Gh) (a':Act) (w':World):Prop where
 tmp:∀ i,¬ M i->tm a' i=tm a i
 ρ:∀ k,¬ M k->g'.ρ k=g.ρ k
 gw:Gw w g.C w' g'.C
 H:∀ k σ,¬ I σ->σ≠0->g'.H k σ=g.H k σ
theorem Lft.refl (M I:Nat->Prop):Lft M I g a w g a w:=⟨fun _ _=>rfl,fun _ _=>rfl,Gw.refl _ _,fun _ _ _ _=>rfl⟩
theorem Lft.trans {M I:Nat->Prop} {g2:Gh} {a2:Act} {w2:World} (h:Lft M I g a w g' a' w') (k:Lft M I g' a' w' g2 a2 w2):Lft M I g a w g2 a2 w2:=
 ⟨fun i hi=>(k.tmp i hi).trans (h.tmp i hi),fun i hi=>(k.ρ i hi).trans (h.ρ i hi),h.gw.trans k.gw,fun x σ h1 h2=>(k.H x σ h1 h2).trans (h.H x σ h1 h2)⟩
theorem Lft.mono {M I M' I':Nat->Prop} (h:Lft M I g a w g' a' w') (hm:∀ i,M i->M' i) (hi:∀ i,I i->I' i):Lft M' I' g a w g' a' w':=
 ⟨fun i hn=>h.tmp i fun e=>hn (hm i e),fun i hn=>h.ρ i fun e=>hn (hm i e),h.gw,fun x σ h1 h2=>h.H x σ (fun e=>h1 (hi σ e)) h2⟩
theorem MRel.knMore {tmf:Nat->Value} (h:MRel F g st tmf w) {kn:List (Nat×Bool)} (hk:∀ t b,knows kn t=some b->tmf t=.bool b):MRel F g ⟨st.φ,st.L,st.O,kn,st.sp,st.fr⟩ tmf w:=
 ⟨h.fr,h.slots,h.locals,h.hist,hk,h.sp,h.fresh,h.locL,h.blk0,h.blkI,h.blkL,h.blkS,h.blkW,h.ρI⟩
theorem MRel.spMore {tmf:Nat->Value} (h:MRel F g st tmf w) (t:Nat):MRel F g ⟨st.φ,st.L,st.O,st.kn,t::st.sp,st.fr⟩ tmf w:=
 ⟨h.fr,h.slots,h.locals,h.hist,h.kn,fun i t' want ag ls hs=>hasN_iff.2 (List.mem_cons_of_mem _ (hasN_iff.1 (h.sp i t' want ag ls hs))),h.fresh,h.locL,h.blk0,h.blkI,h.blkL,h.blkS,h.blkW,h.ρI⟩
theorem MRel.putV {d:Option Nat} {p:PV} {u:Value} (h:MRel F g st (tm a) w) (ha:a.tmps.size=F.n) (hd:∀ x,d=some x->x < F.n) (hv:∀ tmf,(∀ t want ag ls,p=.spec t want ag ls->tmf t=tm a t)->RelP F g w st.O tmf u p)
  (hfree:freeD st d=true) (hsp:∀ t want ag ls,p=.spec t want ag ls->hasN st.sp t=true) (hm:∀ x,x∈outN d st.fr->mentP x p=false) (hk:∀ k,k∈keyP p->(st.L k).isSome=true) :
  MRel F g ⟨putP st.φ d p,st.L,st.O,st.kn,st.sp,outN d st.fr⟩ (tm (a.put d u)) w:=by
 have hput:∀ i,tm (a.put d u) i=if d=some i then u else tm a i:=fun i=>tm_put a d u i fun x hx=>by rw [ha];exact hd x hx
 have hdne:∀ t,hasN st.sp t=true \/ (∃ b,knows st.kn t=some b)->d≠some t:=fun t ht e=>by
  subst e
  simp only [freeD,Bool.and_eq_true,Bool.not_eq_true'] at hfree
  rcases ht with hs | ⟨b,hb⟩
  ·rw [hs] at hfree;cases hfree.1
  ·rw [hb] at hfree;cases hfree.2
 refine ⟨h.fr,fun i=>?_,h.locals,h.hist,fun t b hb=>?_,fun i t want ag ls hs=>?_,fun x hx=>?_,fun i k hk'=>?_,h.blk0,h.blkI,h.blkL,h.blkS,h.blkW,h.ρI⟩
 ·show RelP F g w st.O _ _ (putP st.φ d p i)
  rw [hput]
  by_cases hi:d=some i
  ·rw [if_pos hi,hi,putP_at]
   exact hv _ fun t want ag ls e=>by rw [<-hi,hput,if_neg (hdne t (.inl (hsp t want ag ls e)))]
  ·rw [if_neg hi,putP_ne hi]
   exact (h.slots i).gw (Gw.refl _ _) (fun k _=>Lives.refl k) (fun _ _=>rfl) fun t want ag ls hs=>by rw [hput,if_neg (hdne t (.inl (h.sp i t want ag ls hs)))]
 ·rw [hput,if_neg (hdne t (.inr ⟨b,hb⟩))];exact h.kn t b hb
 ·have hs':putP st.φ d p i=.spec t want ag ls:=hs
  by_cases hi:d=some i
  ·rw [hi,putP_at] at hs';exact hsp t want ag ls hs'
  ·rw [putP_ne hi] at hs';exact h.sp i t want ag ls hs'
 ·have hx':x∈outN d st.fr:=hasN_iff.1 hx
  obtain ⟨f1,f2,f3,f4⟩:=h.fresh x (hasN_iff.2 (outN_mem.1 hx').1)
  refine ⟨fun i=>?_,f2,f3,f4⟩
  show mentP x (putP st.φ d p i)=false
  by_cases hi:d=some i
  ·rw [hi,putP_at];exact hm x hx'
  ·rw [putP_ne hi];exact f1 i
 ·have hk2:k∈keyP (putP st.φ d p i):=hk'
  by_cases hi:d=some i
  ·rw [hi,putP_at] at hk2;exact hk k hk2
  ·rw [putP_ne hi] at hk2;exact h.locL i k hk2
def Fr1 (d:Option Nat) (g:Gh) (a:Act) (w:World) (g':Gh) (a':Act) (w':World):Prop:=Lft (fun i=>d=some i) (fun _=>False) g a w g' a' w'
theorem put_lft (ha:a.tmps.size=F.n) {d:Option Nat} (hd:∀ x,d=some x->x < F.n) (v:Value):Fr1 d g a w g (a.put d v) w:=
 ⟨fun i hi=>by rw [tm_put a d v i fun x hx=>by rw [ha];exact hd x hx,if_neg hi],fun _ _=>rfl,Gw.refl _ _,fun _ _ _ _=>rfl⟩
theorem okUpd_loc {d:Option Nat} {u:Upd} (hok:okUpd st d u=true) {k:Nat} {ls:List Leaf} (hm:(k,ls)∈u.loc) (hn:st.L k=none):d=some k:=by
 simp only [okUpd,Bool.and_eq_true,List.all_eq_true] at hok
 have:=hok.2 (k,ls) hm
 simp only [hn] at this
 cases d with
 | none=>cases this
 | some x=>
  simp only [Bool.and_eq_true] at this
  rw [Nat.eq_of_beq_eq_true this.1]
theorem knows_cons {kn:List (Nat×Bool)} {t:Nat} {b:Bool} {tmf:Nat->Value} (ht:tmf t=.bool b) (h:∀ t b,knows kn t=some b->tmf t=.bool b):∀ t' b',knows ((t,b)::kn) t'=some b'->tmf t'=.bool b':=fun t' b' hk=>by
 unfold knows at hk
 split at hk
 ·rename_i hb
  have e:t=t':=Nat.eq_of_beq_eq_true hb
  injection hk with hk
  subst e;subst hk;exact ht
 ·exact h t' b' hk
theorem pick_run {c x y:Operand} {b:Bool} (hop:o.op=.pick c x y) (hc:a.eval c=.bool b):(execOp a.eval o).run P w=.ok (.value (if b then a.eval x else a.eval y)) w:=by
 simp only [execOp,hop,Sem.run_bind,Sem.run_pure,hc,asBool,Result.andThen_ok]
theorem pick_sound {kn:List (Nat×Bool)} (h:MRel F g ⟨st.φ,st.L,st.O,kn,st.sp,st.fr⟩ (tm a) w) {c x y:Operand} {p:PV} (hop:o.op=.pick c x y) (hp:pickP kn st.φ c x y=some p):∃ b,p=pbool b /\ (execOp a.eval o).run P w=.ok (.value (.bool b)) w:=by
 unfold pickP at hp
 split at hp
 case h_2=>cases hp
 rename_i t
 split at hp
 case h_2=>cases hp
 rename_i b hb
 have hx:=ev_rel h (.tmp t)
 have hx':RelP F g w st.O (tm a) (a.eval (.tmp t)) (evK kn st.φ (.tmp t)):=hx
 rw [hb] at hx'
 have htm:tm a t=.bool b:=rel_bool hx'
 have hc:a.eval (.tmp t)=.bool b:=htm
 have hex:=pick_run (P:=P) (w:=w) hop hc
 have side:∀ (want:Bool) (z:Operand) (q:Bool),b=want->evK ((t,want)::kn) st.φ z=.w false [.d .bool q]->a.eval z=.bool q:=fun want z q e hz=>by
  subst e
  have h2:=h.knMore (kn:=(t,b)::kn) (knows_cons htm h.kn)
  have h3:=ev_rel h2 z
  have h3':RelP F g w st.O (tm a) (a.eval z) (evK ((t,b)::kn) st.φ z):=h3
  rw [hz] at h3'
  exact rel_bool h3'
 split at hp
 ·split at hp
  ·rename_i q hq
   injection hp with hp
   refine ⟨b&&q,hp.symm,?_⟩
   rw [hex]
   cases b with
   | true=>rw [if_pos rfl,side true x q rfl hq];rfl
   | false=>rfl
  ·cases b with
   | true=>cases hp
   | false=>
    injection hp with hp
    exact ⟨false,hp.symm,by rw [hex];rfl⟩
 ·split at hp
  ·split at hp
   ·rename_i q hq
    injection hp with hp
    refine ⟨b||q,hp.symm,?_⟩
    rw [hex]
    cases b with
    | true=>rfl
    | false=>rw [if_neg Bool.false_ne_true,side false y q rfl hq];rfl
   ·cases b with
    | false=>cases hp
    | true=>
     injection hp with hp
     exact ⟨true,hp.symm,by rw [hex];rfl⟩
  ·cases hp
theorem stepU_sound (hE:E.okF F) {kn:List (Nat×Bool)} (h:AR F g ⟨st.φ,st.L,st.O,kn,st.sp,st.fr⟩ a w) (hd:∀ x,o.dst=some x->x < F.n) {C:Rec->PSt->Option R} (hv:stepU E o kn st C=some r) {N:Act->World->Prop} {Q:Exit->Act->World->Prop}
  (hN:∀ a' w' g' rc st',C rc st'=some r->AR F g' st' a' w'->Fr1 o.dst g a w g' a' w'->N a' w'):o.wp E.P a w N Q:=by
 unfold stepU at hv
 split at hv
 case h_2=>cases hv
 rename_i hfree
 split at hv
 ·rename_i c x y hop
  split at hv
  ·rename_i p hp
   obtain ⟨b,rfl,hr⟩:=pick_sound (P:=E.P) h.rel hop hp
   unfold Oper.wp
   rw [hr]
   refine hN _ _ g _ _ hv ⟨(put_size a o.dst _).trans h.size,(put_defers a o.dst _).trans h.defers,?_⟩ (put_lft h.size hd _)
   exact h.rel.putV h.size hd (fun _ _=>mk_bool) hfree (fun _ _ _ _ e=>by cases e) (fun _ _=>rfl) (fun _ e=>by cases e)
  ·cases hv
 ·rename_i hnp
  have hg:=pvU_sound (o:=o) hE h.rel hv
  refine hg N Q fun v w' g' u hC hU=>?_
  simp only at hC
  split at hC
  ·rename_i hok
   refine hN _ _ g' _ _ hC ⟨(put_size a o.dst v).trans h.size,(put_defers a o.dst v).trans h.defers,hU.put h.rel h.size hd hok hfree⟩ ⟨fun i hi=>?_,fun k hk=>?_,hU.gw,fun k σ _ _=>by rw [hU.H]⟩
   ·rw [tm_put a o.dst v i fun x hx=>by rw [h.size];exact hd x hx,if_neg hi]
   ·rcases hU.ρn k with e | ⟨e,ls,hm⟩
    ·exact e
    ·exact (hk (okUpd_loc hok hm e)).elim
  ·cases hC
theorem skipU_sound {kn:List (Nat×Bool)} (h:AR F g ⟨st.φ,st.L,st.O,kn,st.sp,st.fr⟩ a w) (hd:∀ x,o.dst=some x->x < F.n) {C:Rec->PSt->Option R} (hv:skipU o kn st C=some r) {N:Act->World->Prop}
  (hN:∀ a' w' g' rc st',C rc st'=some r->AR F g' st' a' w'->Fr1 o.dst g a w g' a' w'->N a' w'):N (a.put o.dst undef) w:=by
 unfold skipU at hv
 split at hv
 ·rename_i hfree
  refine hN _ _ g _ _ hv ⟨(put_size a o.dst _).trans h.size,(put_defers a o.dst _).trans h.defers,?_⟩ (put_lft h.size hd _)
  exact h.rel.putV h.size hd (fun _ _=>rfl) hfree (fun _ _ _ _ e=>by cases e) (fun _ _=>rfl) (fun _ e=>by cases e)
 ·cases hv
def Way (E:Env) (ops:Array Oper) (o:Oper) (a:Act) (w:World) (N:Act->World->Prop) (Q:Exit->Act->World->Prop):Prop:=
 if Region.wanted o (yielded ops a.tmps) then o.wp E.P a w N Q else N (a.put o.dst undef) w
def isWant (want:Bool):Value->Bool
 | .bool b=>b==want
 | _=>false
theorem isWant_ne {b want:Bool} (h:b≠want):¬ isWant want (.bool b)=true:=by simpa [isWant] using h
theorem isWant_eq {b want:Bool} (h:b=want):isWant want (.bool b)=true:=by simp [isWant,h]
theorem wanted_eq {j t:Nat} {want:Bool} (hg:o.guard=some (j,want)) (ht:(ops[j]?).bind (·.dst)=some t):Region.wanted o (yielded ops a.tmps)=isWant want (tm a t):=by
 unfold Region.wanted yielded
 simp only [hg,ht,Option.bind_some]
 unfold tm
 by_cases hlt:t < a.tmps.size
 ·have e:a.tmps[t]? = some (a.tmps.getD t undef):=by simp [hlt]
  rw [e]
  generalize a.tmps.getD t undef=x
  cases x <;> simp [isWant]
 ·have e:a.tmps[t]? = none:=by simp;omega
  have e2:a.tmps.getD t undef=undef:=by simp [e]
  rw [e,e2]
  rfl
theorem MRel.toSpec {tmf:Nat->Value} {d:Nat} {ag:Bool} {ls:List Leaf} {t:Nat} {want:Bool} {kn kn':List (Nat×Bool)} {φ:Nat->PV} {sp fr:List Nat} (h:MRel F g ⟨putP φ (some d) (.w ag ls),st.L,st.O,kn',sp,fr⟩ tmf w) (ht:tmf t=.bool want)
  (hk:∀ t b,knows kn t=some b->tmf t=.bool b):MRel F g ⟨putP φ (some d) (.spec t want ag ls),st.L,st.O,kn,t::sp,fr⟩ tmf w:=by
 refine ⟨h.fr,fun i=>?_,h.locals,h.hist,hk,fun i t' want' ag' ls' hs=>?_,fun x hx=>?_,fun i k hk'=>?_,h.blk0,h.blkI,h.blkL,h.blkS,h.blkW,h.ρI⟩
 ·have h1:=h.slots i
  show RelP F g w st.O tmf (tmf i) (putP φ (some d) (.spec t want ag ls) i)
  by_cases hi:d=i
  ·subst hi
   rw [putP_at]
   have h1':RelP F g w st.O tmf (tmf d) (putP φ (some d) (.w ag ls) d):=h1
   rw [putP_at] at h1'
   exact ⟨want,ht,fun _=>h1',fun e=>(e rfl).elim⟩
  ·rw [putP_ne (by simpa using hi)]
   have h1':RelP F g w st.O tmf (tmf i) (putP φ (some d) (.w ag ls) i):=h1
   rw [putP_ne (by simpa using hi)] at h1'
   exact h1'
 ·have hs':putP φ (some d) (.spec t want ag ls) i=.spec t' want' ag' ls':=hs
  by_cases hi:d=i
  ·subst hi
   rw [putP_at] at hs'
   injection hs' with e
   subst e
   exact hasN_iff.2 (by simp)
  ·rw [putP_ne (by simpa using hi)] at hs'
   have:=h.sp i t' want' ag' ls' (by show putP φ (some d) (.w ag ls) i=_;rw [putP_ne (by simpa using hi)];exact hs')
   exact hasN_iff.2 (List.mem_cons_of_mem _ (hasN_iff.1 this))
 ·obtain ⟨f1,f2,f3,f4⟩:=h.fresh x hx
  refine ⟨fun i=>?_,f2,f3,f4⟩
  have h1:=f1 i
  show mentP x (putP φ (some d) (.spec t want ag ls) i)=false
  by_cases hi:d=i
  ·subst hi
   rw [putP_at]
   have h1':mentP x (putP φ (some d) (.w ag ls) d)=false:=h1
   rw [putP_at] at h1'
   exact h1'
  ·rw [putP_ne (by simpa using hi)]
   have h1':mentP x (putP φ (some d) (.w ag ls) i)=false:=h1
   rw [putP_ne (by simpa using hi)] at h1'
   exact h1'
 ·have hk2:k∈keyP (putP φ (some d) (.spec t want ag ls) i):=hk'
  by_cases hi:d=i
  ·subst hi
   rw [putP_at] at hk2
   cases hk2
  ·rw [putP_ne (by simpa using hi)] at hk2
   exact h.locL i k (by show k∈keyP (putP φ (some d) (.w ag ls) i);rw [putP_ne (by simpa using hi)];exact hk2)
theorem wayU_sound (hE:E.okF F) {kn:List (Nat×Bool)} {j t:Nat} {want b:Bool} (hg:o.guard=some (j,want)) (ht:(ops[j]?).bind (·.dst)=some t) (h:AR F g ⟨st.φ,st.L,st.O,kn,st.sp,st.fr⟩ a w) (hb:tm a t=.bool b) (hd:∀ x,o.dst=some x->x < F.n)
  {C:Rec->PSt->Option R} (hv:wayU E o want b kn st C=some r) {N:Act->World->Prop} {Q:Exit->Act->World->Prop} (hN:∀ a' w' g' rc st',C rc st'=some r->AR F g' st' a' w'->Fr1 o.dst g a w g' a' w'->N a' w'):Way E ops o a w N Q:=by
 unfold Way
 rw [wanted_eq hg ht,hb]
 unfold wayU at hv
 split at hv
 ·rename_i he
  have:=bEq_iff.1 he
  subst this
  rw [if_pos (by simp [isWant])]
  exact stepU_sound hE h hd hv hN
 ·rename_i he
  have hne:b≠want:=fun e=>by rw [bEq_iff.2 e] at he;cases he
  rw [if_neg (by simpa [isWant] using hne)]
  exact skipU_sound h hd hv hN
theorem guardU_sound (hE:E.okF F) {j t:Nat} {want:Bool} (hg:o.guard=some (j,want)) (ht:(ops[j]?).bind (·.dst)=some t) (hd:∀ x,o.dst=some x->x < F.n) {C:Rec->PSt->Option R} {N:Act->World->Prop} {Q:Exit->Act->World->Prop}
    (hN:∀ a' w' g' rc st',C rc st'=some r->AR F g' st' a' w'->Fr1 o.dst g a w g' a' w'->N a' w'):∀ (n:Nat) (kn:List (Nat×Bool)),AR F g ⟨st.φ,st.L,st.O,kn,st.sp,st.fr⟩ a w->guardU E o t want n kn st C=some r->Way E ops o a w N Q
  | 0,_,_,hv=>by cases hv
  | n+1,kn,h,hv=>by
    unfold guardU at hv
    have hx:=ev_rel h.rel (.tmp t)
    have hx':RelP F g w st.O (tm a) (a.eval (.tmp t)) (evK kn st.φ (.tmp t)):=hx
    split at hv
    · rename_i b hb
      rw [hb] at hx'
      have htm:tm a t=.bool b:=rel_bool hx'
      split at hv
      · rename_i b' hk
        have hb':tm a t=.bool b':=h.rel.kn t b' hk
        exact wayU_sound hE hg ht h hb' hd hv hN
      · rename_i hk
        split at hv
        · rename_i ag ls hs
          split at hv
          · rename_i hfk
            simp only [Bool.and_eq_true] at hfk
            have hft:=hfk.1
            have hdt:o.dst≠some t:=fun e=>by
              rw [e] at hft
              simp only [freeD,Bool.and_eq_true,Bool.not_eq_true'] at hft
              have:=hft.1
              rw [hasN_iff.2 (by simp)] at this
              cases this
            have hfree:∀ kn2,(∀ x,o.dst=some x->knows kn2 x=none)->freeD ⟨st.φ,st.L,st.O,kn2,st.sp,st.fr⟩ o.dst=true:=fun kn2 hkn=>by
              cases hdd:o.dst with
              | none=>rfl
              | some x=>
                rw [hdd] at hft
                simp only [freeD,Bool.and_eq_true,Bool.not_eq_true'] at hft ⊢
                refine ⟨Bool.eq_false_iff.2 fun e=>?_,by rw [hkn x hdd]⟩
                have:=hft.1
                rw [hasN_iff.2 (List.mem_cons_of_mem _ (hasN_iff.1 e))] at this
                cases this
            have hknd:∀ x,o.dst=some x->knows kn x=none:=fun x hdd=>by
              rw [hdd] at hft
              simp only [freeD,Bool.and_eq_true] at hft
              have h2:=hft.2
              cases hkx:knows kn x with
              | none=>rfl
              | some q=>
                have:(match knows kn x with | some _=>false | none=>true)=true:=h2
                rw [hkx] at this
                cases this
            unfold Way
            rw [wanted_eq hg ht,htm]
            by_cases hbw:b=want
            · rw [if_pos (isWant_eq hbw)]
              unfold specU at hs
              split at hs
              case h_2=>cases hs
              have htw:tm a t=.bool want:=by rw [htm,hbw]
              have h2:=h.rel.knMore (kn:=(t,want)::kn) (knows_cons htw h.rel.kn)
              have hgo:=pvU_sound (o:=o) hE h2 hs
              refine hgo N Q fun v w' g' u hC hU=>?_
              simp only at hC
              split at hC
              · rename_i ag' ls' e1 e2 e3 e4
                simp only [Option.some.injEq,Prod.mk.injEq] at hC
                obtain ⟨rfl,rfl⟩:=hC
                have eu:u=Upd.v (.w ag' ls'):=by
                  obtain ⟨u1,u2,u3,u4⟩:=u
                  simp only at e1 e2 e3 e4
                  subst e1;subst e2;subst e3;subst e4
                  rfl
                subst eu
                have hok:okUpd ⟨st.φ,st.L,st.O,(t,want)::kn,st.sp,st.fr⟩ o.dst (Upd.v (.w ag' ls'))=true:=hfk.2
                have hput:=hU.put h2 h.size hd hok (hfree _ fun x hdd=>by
                  have h3:=hknd x hdd
                  unfold knows
                  have hne:t≠x:=fun e=>hdt (by rw [hdd,e])
                  rw [show Nat.beq t x=false from Bool.eq_false_iff.2 fun e=>hne (Nat.eq_of_beq_eq_true e)]
                  exact h3)
                have hρk:∀ k,g'.ρ k=g.ρ k:=fun k=>by
                  rcases hU.ρn k with e | ⟨e,l,hm⟩
                  · exact e
                  · cases hm
                have hlft:Fr1 o.dst g a w g' (a.put o.dst v) w':=⟨fun i hi=>by rw [tm_put a o.dst v i fun x hx=>by rw [h.size];exact hd x hx,if_neg hi],fun k _=>hρk k,hU.gw,fun k σ _ _=>by rw [hU.H]⟩
                have htm2:tm (a.put o.dst v) t=.bool want:=by rw [tm_put a o.dst v t fun x hx=>by rw [h.size];exact hd x hx,if_neg hdt];exact htw
                have hkn2:∀ t' b',knows kn t'=some b'->tm (a.put o.dst v) t'=.bool b':=fun t' b' hk'=>by
                  rw [tm_put a o.dst v t' fun x hx=>by rw [h.size];exact hd x hx,if_neg fun e=>?_]
                  · exact h.rel.kn t' b' hk'
                  · rw [hknd t' e] at hk';cases hk'
                refine hN _ _ g' _ _ hv ⟨(put_size a o.dst v).trans h.size,(put_defers a o.dst v).trans h.defers,?_⟩ hlft
                cases hdd:o.dst with
                | none=>
                  rw [hdd] at hput hkn2 htm2
                  have:=(hput.knMore hkn2).spMore t
                  exact this
                | some d=>
                  rw [hdd] at hput hkn2 htm2
                  have hput':MRel F g' ⟨putP st.φ (some d) (.w ag' ls'),st.L,putO st.O [] [],(t,want)::kn,st.sp,outN (some d) st.fr⟩ (tm (a.put (some d) v)) w':=hput
                  rw [putO_nil] at hput'
                  exact MRel.toSpec (st:=st) hput' htm2 hkn2
              · cases hC
            · rw [if_neg (isWant_ne hbw)]
              refine hN _ _ g _ _ hv ⟨(put_size a o.dst _).trans h.size,(put_defers a o.dst _).trans h.defers,?_⟩ (put_lft h.size hd _)
              have hkeep:okUpd ⟨st.φ,st.L,st.O,kn,st.sp,st.fr⟩ o.dst (Upd.v (.w ag ls))=true:=hfk.2
              simp only [okUpd,Bool.and_eq_true,List.all_eq_true] at hkeep
              have:=(h.rel.spMore t).putV (d:=o.dst) (p:=.spec t want ag ls) (u:=undef) h.size hd (fun tmf htmf=>⟨b,(htmf t want ag ls rfl).trans htm,fun e=>(hbw e).elim,fun _=>rfl⟩) hft
                (fun t' want' ag' ls' e=>by injection e with e;subst e;exact hasN_iff.2 (by simp)) (fun x hx=>by
                  have h3:=(hkeep.1.1.1.1 x hx).1
                  simp only [Bool.not_eq_true'] at h3
                  exact h3) (fun k hk=>by cases hk)
              exact this
          · cases hv
        · have key : ∀ q : Bool, b = q -> wayU E o want q ((t, q) :: kn) st C = some r -> Way E ops o a w N Q := fun q e hv => by
            subst e
            exact wayU_sound hE hg ht ⟨h.size,h.defers,h.rel.knMore (knows_cons htm h.rel.kn)⟩ htm hd hv hN
          cases b with
          | true=>exact key true rfl hv
          | false=>exact key false rfl hv
    · rename_i vs hb
      rw [hb] at hx'
      have htm:tm a t=.tuple vs:=hx'
      unfold Way
      rw [wanted_eq hg ht,htm,if_neg (by simp [isWant])]
      exact skipU_sound h hd hv hN
    · split at hv
      · rename_i t1 w1 ag1 ls1 hs1
        split at hv
        · rename_i b1 hb1 hk1
          have hx1:=ev_rel h.rel (.tmp t1)
          have hx1':RelP F g w st.O (tm a) (a.eval (.tmp t1)) (evK kn st.φ (.tmp t1)):=hx1
          rw [hb1] at hx1'
          have htm1:tm a t1=.bool b1:=rel_bool hx1'
          have key:∀ q:Bool,b1=q->guardU E o t want n ((t1,q)::kn) st C=some r->Way E ops o a w N Q:=fun q e hv=>by
            subst e
            exact guardU_sound hE hg ht hd hN n _ ⟨h.size,h.defers,h.rel.knMore (knows_cons htm1 h.rel.kn)⟩ hv
          cases b1 with
          | true=>exact key true rfl hv
          | false=>exact key false rfl hv
        · cases hv
      · cases hv
    · cases hv
theorem pvStep_sound (hE:E.okF F) (h:AR F g st a w) (hd:∀ x,o.dst=some x->x < F.n) {C:Rec->PSt->Option R} (hv:pvStep E ops o st C=some r) {N:Act->World->Prop} {Q:Exit->Act->World->Prop}
  (hN:∀ a' w' g' rc st',C rc st'=some r->AR F g' st' a' w'->Fr1 o.dst g a w g' a' w'->N a' w'):Way E ops o a w N Q:=by
 unfold pvStep at hv
 split at hv
 ·rename_i hg
  unfold Way
  rw [if_pos (by simp [Region.wanted,hg])]
  exact stepU_sound hE h hd hv hN
 ·rename_i j want hg
  split at hv
  ·cases hv
  ·rename_i t ht
   exact guardU_sound hE hg ht hd hN 4 _ h hv
theorem pvOps_sound (hE:E.okF F) {M:Nat->Prop} {Q:Exit->Act->World->Prop}:∀ (l:List Oper) (tr:List Rec) (g:Gh) (st:PSt) (a:Act) (w:World) (C:List Rec->PSt->Option R),(∀ o∈l,∀ x,o.dst=some x->x < F.n /\ M x)->AR F g st a w->pvOps E ops l tr st C=some r ->
  (∀ a' w' g' tr' st',C tr' st'=some r->AR F g' st' a' w'->Lft M (fun _=>False) g a w g' a' w'->Q .normal a' w')->wpList E.P ops Q l a w
 | [],tr,g,st,a,w,C,_,h,hv,hQ=>hQ a w g tr st hv h (Lft.refl _ _)
 | o::l,tr,g,st,a,w,C,hd,h,hv,hQ=>by
  refine wpList_step fun K hK=>?_
  unfold pvOps at hv
  refine pvStep_sound (Q:=Q) hE h (fun x hx=>(hd o (by simp) x hx).1) hv fun a' w' g' rc st' hC h' hl=>hK _ _ ?_
  refine pvOps_sound hE l _ g' st' a' w' C (fun o ho=>hd o (by simp [ho])) h' hC fun a2 w2 g2 tr2 st2 hC2 h2 hl2=>hQ a2 w2 g2 tr2 st2 hC2 h2 ?_
  exact (hl.mono (fun i hi=>(hd o (by simp) i hi).2) (fun _ hi=>hi)).trans hl2
end
section
variable {P : Program} {E : Env} {F : Fr} {g g' g0 : Gh} {st st' s : PSt} {a a' a0 : Act} {w w' w0 : World} {o : Oper} {ops : Array Oper} {R : Type} {r : R} {O O' : Tok -> Bool}
def Less (O O':Tok->Bool) (l l':Leaf):Prop:=l'=unown l \/ (l'=l /\ ∀ k E e x,l=.own k E e x->O' k=true->O k=true)
theorem RepL.less {l l':Leaf} {cs:List Value} (h:RepL F g w O l cs) (hl:Less O O' l l'):RepL F g w O' l' cs:=by
 rcases hl with rfl | ⟨rfl,hk⟩
 ·cases l with
  | d t x=>exact h
  | own k E e l=>exact h.1
 ·cases l' with
  | d t x=>exact h
  | own k E e l=>exact ⟨h.1,fun ho=>h.2 (hk k E e l rfl ho)⟩
theorem RepLs.less {f:Leaf->Leaf} (hf:∀ l,Less O O' l (f l)):∀ {ls:List Leaf} {cs:List Value},RepLs F g w O ls cs->RepLs F g w O' (ls.map f) cs
 | [],cs,h=>h
 | l::ls,cs,h=>by
  obtain ⟨c1,c2,rfl,h1,h2⟩:=h
  exact ⟨c1,c2,rfl,h1.less (hf l),RepLs.less hf h2⟩
theorem less_size {l l':Leaf} (h:Less O O' l l'):l'.size=l.size:=by
 rcases h with rfl | ⟨rfl,_⟩
 ·cases l <;> rfl
 ·rfl
theorem sizeLs_map {f:Leaf->Leaf} (hf:∀ l,(f l).size=l.size):∀ {ls:List Leaf},sizeLs (ls.map f)=sizeLs ls
 | []=>rfl
 | l::ls=>by simp [sizeLs,hf l,sizeLs_map hf]
theorem RelV.less {f:Leaf->Leaf} (hf:∀ l,Less O O' l (f l)) {u:Value} {ag:Bool} {ls:List Leaf} (h:RelV F g w O u ag ls):RelV F g w O' u ag (ls.map f):=
 let ⟨cs,h1,h2⟩:=h
 ⟨cs,h1.less hf,h2⟩
theorem RelT.less {f:Leaf->Leaf} (hf:∀ l,Less O O' l (f l)):∀ {us:List Value} {xs:List (Bool×List Leaf)},RelT F g w O us xs->RelT F g w O' us (xs.map fun x=>(x.1,x.2.map f))
 | [],[],_=>trivial
 | u::us,x::xs,h=>⟨h.1.less hf,RelT.less hf h.2⟩
 | [],_::_,h=>h.elim
 | _::_,[],h=>h.elim
theorem LocOk.less {f:Leaf->Leaf} (hf:∀ l,Less O O' l (f l)) {ls:List Leaf} {p:Nat×Nat} (h:LocOk F g w O ls p):LocOk F g w O' (ls.map f) p:=by
 obtain ⟨cur,T,h1,h2,h3,h4,h5⟩:=h
 have hs:sizeLs (ls.map f)=sizeLs ls:=sizeLs_map fun l=>less_size (hf l)
 exact ⟨cur,T,h1,by rw [hs];exact h2,by rw [hs];exact h3.less hf,fun o a b=>h4 o a (by rw [hs] at b;exact b),fun o b=>h5 o (by rw [hs] at b;exact b)⟩
theorem elem_less {O'':Tok->Bool} {tmf:Nat->Value} {u:Value} {ls:List Leaf} (h:RelP F g w O tmf u (.elem ls)):RelP F g w O'' tmf u (.elem ls):=by
 obtain ⟨ad,cs,h1,h2,h4,h3⟩:=h
 refine ⟨ad,cs,h1,h2.gw (Gw.refl _ _) fun k E e x hx=>?_,h4,h3⟩
 have:=h4 _ hx
 cases this
theorem dropLeaf_less {ds:List Nat} (l:Leaf):Less O (fun t=>!(dropTok ds t)&&O t) l (dropLeaf ds l):=by
 cases l with
 | d t x=>exact .inl rfl
 | own k E e l=>
  unfold dropLeaf
  simp only
  cases hd:dropTok ds k with
  | true=>exact .inl rfl
  | false=>exact .inr ⟨rfl,fun k' E' e' x h ho=>by simp only [Bool.and_eq_true] at ho;exact ho.2⟩
theorem dropLeaf_D {ds:List Nat} {l:Leaf} (h:isD l=true):dropLeaf ds l=l:=by cases l <;> first | rfl | cases h
theorem map_D {f:Leaf->Leaf} (hf:∀ l,isD l=true->f l=l):∀ {ls:List Leaf},(∀ l∈ls,isD l=true)->ls.map f=ls
 | [],_=>rfl
 | l::ls,h=>by rw [List.map_cons,hf l (h l (by simp)),map_D hf fun l hl=>h l (by simp [hl])]
theorem dropLeaf_ment {ds:List Nat} {d:Nat} (hd:hasN ds d=true) (l:Leaf):mentL d (dropLeaf ds l)=false:=by
 cases l with
 | d t x=>rfl
 | own k E e l=>
  unfold dropLeaf
  simp only
  cases hk:dropTok ds k with
  | true=>rfl
  | false=>
   cases k with
   | zero=>rfl
   | hd _ _=>rfl
   | op d' j=>
    have hk':hasN ds d'=false:=hk
    show Nat.beq d' d=false
    exact Bool.eq_false_iff.2 fun e=>by rw [Nat.eq_of_beq_eq_true e,hd] at hk';cases hk'
theorem dropLeaf_ments {ds:List Nat} {d:Nat} (hd:hasN ds d=true):∀ (ls:List Leaf),mentLs d (ls.map (dropLeaf ds))=false
 | []=>rfl
 | l::ls=>by
  show (mentL d (dropLeaf ds l)||mentLs d (ls.map (dropLeaf ds)))=false
  rw [dropLeaf_ment hd,dropLeaf_ments hd ls];rfl
theorem san_rel {tmf:Nat->Value} (ds:List Nat) (h:MRel F g st tmf w):MRel F g (sanSt ds st) tmf w:=by
 have Lc:∀ k σ ls,(sanSt ds st).L k=some (σ,ls)->hasN ds k=false /\ ∃ l0,st.L k=some (σ,l0) /\ ls=l0.map (dropLeaf ds):=fun k σ ls hL=>by
  have hL':(match hasN ds k with | true=>none | false=>match st.L k with | some (σ,ls)=>some (σ,ls.map (dropLeaf ds)) | none=>none)=some (σ,ls):=hL
  split at hL'
  ·cases hL'
  ·rename_i hk
   split at hL'
   ·rename_i σ' l0 h0
    simp only [Option.some.injEq,Prod.mk.injEq] at hL'
    obtain ⟨rfl,rfl⟩:=hL'
    exact ⟨hk,l0,h0,rfl⟩
   ·cases hL'
 have Ls:∀ k,hasN ds k=false->(st.L k).isSome=true->((sanSt ds st).L k).isSome=true:=fun k hk h0=>by
  obtain ⟨⟨σ,l0⟩,h0⟩:=Option.isSome_iff_exists.1 h0
  show (match hasN ds k with | true=>none | false=>match st.L k with | some (σ,ls)=>some (σ,ls.map (dropLeaf ds)) | none=>none).isSome=true
  rw [hk,h0];rfl
 have Od:∀ k,(sanSt ds st).O k=true->st.O k=true:=fun k hk=>by
  have hk':(!(dropTok ds k)&&st.O k)=true:=hk
  simp only [Bool.and_eq_true] at hk'
  exact hk'.2
 refine ⟨h.fr,fun i=>?_,fun k σ ls hL=>?_,fun k σ ls hL hσ=>?_,fun t b hb=>by (cases hb),fun i t want ag ls hs=>?_,fun d hd=>⟨fun i=>?_,fun k σ ls hL=>?_,fun j=>?_,?_⟩,fun i k hk=>?_,h.blk0,fun k k' b hk hk'=>h.blkI k k' b (Od k hk) (Od k' hk'),
  fun k b j x hk hb hL=>?_,fun k b hk=>h.blkS k b (Od k hk),fun k b hk=>h.blkW k b (Od k hk),fun j j' x x' hj hj'=>?_⟩
 ·have h1:=h.slots i
  show RelP F g w _ tmf (tmf i) (sanP ds (st.φ i))
  cases hp:st.φ i with
  | w ag ls=>rw [hp] at h1;exact RelV.less dropLeaf_less h1
  | tup xs=>
   rw [hp] at h1
   obtain ⟨us,e,ht⟩:=h1
   exact ⟨us,e,ht.less dropLeaf_less⟩
  | loc k f=>
   rw [hp] at h1
   show RelP F g w _ tmf (tmf i) (match hasN ds k with | true=>.dead | false=>.loc k f)
   cases hasN ds k with
   | true=>trivial
   | false=>exact h1
  | locE k f e j q=>
   rw [hp] at h1
   show RelP F g w _ tmf (tmf i) (match hasN ds k with | true=>.dead | false=>.locE k f e j q)
   cases hasN ds k with
   | true=>trivial
   | false=>exact h1
  | row k m t=>
   rw [hp] at h1
   show RelP F g w _ tmf (tmf i) (match hasN ds k with | true=>.dead | false=>.row k m t)
   cases hasN ds k with
   | true=>trivial
   | false=>exact h1
  | elem ls=>rw [hp] at h1;exact elem_less h1
  | raw v=>rw [hp] at h1;exact h1
  | spec _ _ _ _=>trivial
  | dead=>trivial
 ·obtain ⟨hk,l0,h0,rfl⟩:=Lc k σ ls hL
  exact (h.locals k σ l0 h0).less dropLeaf_less
 ·obtain ⟨hk,l0,h0,rfl⟩:=Lc k σ ls hL
  obtain ⟨q1,q2⟩:=h.hist k σ l0 h0 hσ
  rw [map_D (fun l hl=>dropLeaf_D hl) q2]
  exact ⟨q1,q2⟩
 ·exfalso
  have hs':sanP ds (st.φ i)=.spec t want ag ls:=hs
  cases hp:st.φ i <;> rw [hp] at hs' <;> simp only [sanP] at hs' <;> first | (cases hs';done) | (split at hs' <;> cases hs')
 ·show mentP d (sanP ds (st.φ i))=false
  have hd':hasN ds d=true:=hd
  cases hp:st.φ i with
  | w ag ls=>exact dropLeaf_ments hd' ls
  | tup xs=>
   show ((xs.map fun x=>(x.1,x.2.map (dropLeaf ds))).any fun x=>mentLs d x.2)=false
   rw [List.any_map]
   apply Bool.eq_false_iff.2
   intro hany
   obtain ⟨x,_,hx⟩:=List.any_eq_true.1 hany
   have:mentLs d (x.2.map (dropLeaf ds))=true:=hx
   rw [dropLeaf_ments hd'] at this
   cases this
  | loc k f=>
   show mentP d (match hasN ds k with | true=>.dead | false=>.loc k f)=false
   cases hk:hasN ds k with
   | true=>rfl
   | false=>exact Bool.eq_false_iff.2 fun e=>by rw [Nat.eq_of_beq_eq_true e,hd'] at hk;cases hk
  | locE k f e j q=>
   show mentP d (match hasN ds k with | true=>.dead | false=>.locE k f e j q)=false
   cases hk:hasN ds k with
   | true=>rfl
   | false=>exact Bool.eq_false_iff.2 fun e=>by rw [Nat.eq_of_beq_eq_true e,hd'] at hk;cases hk
  | row k m t=>
   show mentP d (match hasN ds k with | true=>.dead | false=>.row k m t)=false
   cases hk:hasN ds k with
   | true=>rfl
   | false=>exact Bool.eq_false_iff.2 fun e=>by rw [Nat.eq_of_beq_eq_true e,hd'] at hk;cases hk
  | elem ls=>rfl
  | raw v=>rfl
  | spec _ _ _ _=>rfl
  | dead=>rfl
 ·obtain ⟨_,l0,_,rfl⟩:=Lc k σ ls hL
  exact dropLeaf_ments hd l0
 ·show (!(hasN ds d)&&st.O (.op d j))=false
  rw [show hasN ds d=true from hd];rfl
 ·show (match hasN ds d with | true=>none | false=>match st.L d with | some (σ,ls)=>some (σ,ls.map (dropLeaf ds)) | none=>none)=none
  rw [show hasN ds d=true from hd]
 ·have hk':k∈keyP (sanP ds (st.φ i)):=hk
  have key:k∈keyP (st.φ i) /\ hasN ds k=false:=by
   cases hp:st.φ i <;> rw [hp] at hk' <;> simp only [sanP] at hk'
   case loc k0 f=>
    cases hh:hasN ds k0 with
    | true=>rw [hh] at hk';cases hk'
    | false=>
     rw [hh] at hk'
     have e:k=k0:=by simpa [keyP] using hk'
     rw [e];exact ⟨by simp [keyP],hh⟩
   case row k0 m t=>
    cases hh:hasN ds k0 with
    | true=>rw [hh] at hk';cases hk'
    | false=>
     rw [hh] at hk'
     have e:k=k0:=by simpa [keyP] using hk'
     rw [e];exact ⟨by simp [keyP],hh⟩
   case locE k0 f e j q=>
    cases hh:hasN ds k0 with
    | true=>rw [hh] at hk';cases hk'
    | false=>
     rw [hh] at hk'
     have e:k=k0:=by simpa [keyP] using hk'
     rw [e];exact ⟨by simp [keyP],hh⟩
   all_goals cases hk'
  exact Ls k key.2 (h.locL i k key.1)
 ·obtain ⟨x1,x2⟩:=x
  obtain ⟨_,l0,h0,_⟩:=Lc j x1 x2 hL
  exact h.blkL k b j _ (Od k hk) hb h0
 ·obtain ⟨x1,x2⟩:=x
  obtain ⟨y1,y2⟩:=x'
  obtain ⟨_,l0,h0,_⟩:=Lc j x1 x2 hj
  obtain ⟨_,l1,h1,_⟩:=Lc j' y1 y2 hj'
  exact h.ρI j j' _ _ h0 h1
theorem unown_less (l:Leaf):Less O O' l (unown l):=.inl rfl
theorem unown_D (l:Leaf):isD (unown l)=true:=by cases l <;> rfl
theorem unown_same {l:Leaf} (h:isD l=true):unown l=l:=by cases l <;> first | rfl | cases h
end
section
variable {P : Program} {E : Env} {F : Fr} {g g' g0 : Gh} {st st' s : PSt} {a a' a0 : Act} {w w' w0 : World} {R : Type} {r : R} {O O' : Tok -> Bool} {σ : Tok -> Tok -> Prop}
theorem slotLs_len {φ:Nat->PV}:∀ {sl:List (Nat×Bool×List LT)} {la:List Leaf},slotLs φ sl=some la->la.length=lenTs sl
 | [],la,h=>by
  simp only [slotLs,Option.some.injEq] at h
  subst h;rfl
 | (i,ag,ts)::r,la,h=>by
  unfold slotLs at h
  split at h
  ·rename_i ag' ls l hp hr
   split at h
   ·rename_i hb
    simp only [Bool.and_eq_true] at hb
    simp only [Option.some.injEq] at h
    subst h
    have:=slotLs_len hr
    have hl:=Nat.eq_of_beq_eq_true hb.2
    unfold lenTs at this ⊢
    simp [this,hl]
   ·cases h
  ·cases h
theorem slot_at {φ:Nat->PV} {rest:List Leaf} {i:Nat} {p:PV}:∀ {sl:List (Nat×Bool×List LT)} {la:List Leaf},slotLs φ sl=some la->nthS sl (la++rest) i=some p->φ i=p
 | [],la,_,hn=>by cases hn
 | (j,ag,ts)::r,la,h,hn=>by
  unfold slotLs at h
  split at h
  ·rename_i ag' ls l hp hr
   split at h
   ·rename_i hb
    simp only [Bool.and_eq_true] at hb
    simp only [Option.some.injEq] at h
    subst h
    have hl:ls.length=ts.length:=Nat.eq_of_beq_eq_true hb.2
    have hag:=bEq_iff.1 hb.1
    unfold nthS at hn
    rw [<-hl,List.append_assoc,List.take_left,List.drop_left] at hn
    split at hn
    ·rename_i hij
     have e:i=j:=Nat.eq_of_beq_eq_true hij
     injection hn with hn
     rw [e,hp,<- hn,hag]
    ·exact slot_at hr hn
   ·cases h
  ·cases h
theorem nthS_same:∀ {sl:List (Nat×Bool×List LT)} {q q':List Leaf} {i:Nat} {p':PV},SameLs σ q q'->nthS sl q' i=some p' -> ∃ ag l l',p'=.w ag l' /\ nthS sl q i=some (.w ag l) /\ SameLs σ l l'
 | [],_,_,_,_,_,h=>by cases h
 | (j,ag,ts)::r,q,q',i,p',hs,h=>by
  unfold nthS at h
  split at h
  ·rename_i hij
   injection h with h
   refine ⟨ag,q.take ts.length,q'.take ts.length,h.symm,?_,hs.take _⟩
   unfold nthS
   rw [hij]
  ·rename_i hij
   obtain ⟨ag',l,l',h1,h2,h3⟩:=nthS_same (hs.drop ts.length) h
   refine ⟨ag',l,l',h1,?_,h3⟩
   unfold nthS
   rw [hij];exact h2
theorem local_at {L:Nat->Option (Nat×List Leaf)} {k:Nat} {l:List Leaf}:∀ {lo:List (Nat×List LT)} {lb:List Leaf},localLs L lo=some lb->nthL lo lb k=some l -> ∃ σ,L k=some (σ,l)
 | [],la,_,hn=>by cases hn
 | (j,ts)::r,lb,h,hn=>by
  unfold localLs at h
  split at h
  ·rename_i σ ls q hp hr
   split at h
   ·rename_i hb
    simp only [Option.some.injEq] at h
    subst h
    have hl:ls.length=ts.length:=Nat.eq_of_beq_eq_true hb
    unfold nthL at hn
    rw [<-hl,List.take_left,List.drop_left] at hn
    split at hn
    ·rename_i hij
     have e:k=j:=Nat.eq_of_beq_eq_true hij
     injection hn with hn
     exact ⟨σ,by rw [e,hp,<- hn]⟩
    ·exact local_at hr hn
   ·cases h
  ·cases h
theorem nthL_same:∀ {lo:List (Nat×List LT)} {q q':List Leaf} {k:Nat} {l':List Leaf},SameLs σ q q'->nthL lo q' k=some l' -> ∃ l,nthL lo q k=some l /\ SameLs σ l l'
 | [],_,_,_,_,_,h=>by cases h
 | (j,ts)::r,q,q',k,l',hs,h=>by
  unfold nthL at h
  split at h
  ·rename_i hij
   injection h with h
   refine ⟨q.take ts.length,?_,by rw [<-h];exact hs.take _⟩
   unfold nthL
   rw [hij]
  ·rename_i hij
   obtain ⟨l,h2,h3⟩:=nthL_same (hs.drop ts.length) h
   refine ⟨l,?_,h3⟩
   unfold nthL
   rw [hij];exact h2
theorem nthL_has:∀ {lo:List (Nat×List LT)} {q:List Leaf} {k:Nat},hasN (lo.map (·.1)) k=true -> ∃ l,nthL lo q k=some l
 | [],q,k,h=>by cases h
 | (j,ts)::r,q,k,h=>by
  unfold nthL
  cases hb:Nat.beq k j with
  | true=>exact ⟨_,rfl⟩
  | false=>
   have hm:=hasN_iff.1 h
   simp only [List.map_cons,List.mem_cons] at hm
   rcases hm with e | hm
   ·rw [e] at hb;simp at hb
   ·exact nthL_has (hasN_iff.2 hm)
theorem LocOk.turn {F':Fr} (T:Turn F g O F' g' O' σ) (hF:∀ b o,Wr F b o->Wr F' b o) {ls ls':List Leaf} (hs:SameLs σ ls ls') {p:Nat×Nat} (h:LocOk F g w O ls p):LocOk F' g' w O' ls' p:=by
 obtain ⟨cur,T0,h1,h2,h3,h4,h5⟩:=h
 refine ⟨cur,T0,h1,by rw [hs.sizes];exact h2,by rw [hs.sizes];exact h3.turn T hs,fun o x y=>?_,fun o ho=>h5 o (by rw [hs.sizes] at ho;exact ho)⟩
 rw [hs.sizes] at y
 obtain ⟨z1,z2⟩:=h4 o x y
 exact ⟨by rw [T.C];exact z1,hF _ _ z2⟩
def headG (g:Gh) (n:Ann) (st:PSt) (ks:List Tok):Gh:=
 ⟨g.C,fun t=>match t with | .hd i j=>(match Nat.beq i n.id with | true=>g.blk (ks.getD j .zero) | false=>none) | _=>none,g.ρ,fun k σ=>match Nat.beq σ n.id with | true=>(match keptL n st k with | some (_,ls)=>ls | none=>[]) | false=>g.H k σ⟩
theorem headG_H {n:Ann} {ks:List Tok} {k σ:Nat} (h:σ≠n.id):(headG g n st ks).H k σ=g.H k σ:=by
 show (match Nat.beq σ n.id with | true=>_ | false=>g.H k σ)=_
 rw [show Nat.beq σ n.id=false from Bool.eq_false_iff.2 fun e=>h (Nat.eq_of_beq_eq_true e)]
theorem keptL_some {n:Ann} {k σ:Nat} {ls:List Leaf} (h:keptL n st k=some (σ,ls)):σ=n.id /\ k∈n.kept /\ ∃ σ0 l0,st.L k=some (σ0,l0) /\ ls=l0.map unown:=by
 unfold keptL at h
 split at h
 ·rename_i hk
  split at h
  ·rename_i σ0 l0 h0
   simp only [Option.some.injEq,Prod.mk.injEq] at h
   exact ⟨h.1.symm,hasN_iff.1 hk,σ0,l0,h0,h.2.symm⟩
  ·cases h
 ·cases h
theorem unownP_rel {tmf tmf':Nat->Value} {u:Value} {p:PV} (h:RelP F g0 w0 O tmf u p) (G:Gw w0 g0.C w g.C) (hρ:∀ k,k∈keyP p->g.ρ k=g0.ρ k):RelP F g w O' tmf' u (unownP p):=by
 have hd:∀ (ls:List Leaf) k E e x,Leaf.own k E e x∈ls.map unown->False:=fun ls k E e x hm=>by
  obtain ⟨l,_,hl⟩:=List.mem_map.1 hm
  have:=unown_D l
  rw [hl] at this;cases this
 cases p with
 | w ag ls=>exact (RelV.less (O':=O') unown_less h).gw G fun k E e x hm=>(hd ls k E e x hm).elim
 | tup xs=>
  obtain ⟨us,e,ht⟩:=h
  refine ⟨us,e,(RelT.less (O':=O') unown_less ht).gw G fun k E e x ⟨y,hy,hm⟩=>?_⟩
  obtain ⟨z,_,rfl⟩:=List.mem_map.1 hy
  exact (hd z.2 k E e x hm).elim
 | loc k f=>
  show u=_
  rw [hρ k (by simp [keyP])];exact h
 | locE k f e j q=>
  refine ⟨h.1,?_⟩
  rw [hρ k (by simp [keyP])];exact h.2
 | row k m t=>
  obtain ⟨cap,h1,h2⟩:=h
  refine ⟨cap,?_,h2⟩
  rw [hρ k (by simp [keyP])];exact h1
 | elem ls=>exact RelP.gw (tmf':=tmf') (elem_less (O'':=O') h) G (fun k hk=>hk.elim) (fun k hk=>by cases hk) (fun _ _ _ _ e=>by cases e)
 | raw v=>exact h
 | spec _ _ _ _=>trivial
 | dead=>trivial
theorem slotLs_arr (h:MRel F g s (tm a) w):∀ {sl:List (Nat×Bool×List LT)} {la:List Leaf},slotLs s.φ sl=some la -> ∀ l∈la,arrOk l
 | [],la,hs,l,hl=>by
  simp only [slotLs,Option.some.injEq] at hs
  subst hs
  cases hl
 | (i,ag,ts)::r,la,hs,l,hl=>by
  unfold slotLs at hs
  split at hs
  ·rename_i ag' ls q hφ hq
   split at hs
   ·injection hs with hs
    subst hs
    rcases List.mem_append.1 hl with hl | hl
    ·have h0:=h.slots i
     rw [hφ] at h0
     obtain ⟨cs,h1,_⟩:=h0
     exact repLs_arr h1 l hl
    ·exact slotLs_arr h hq l hl
   ·cases hs
  ·cases hs
theorem localLs_arr (h:MRel F g s (tm a) w):∀ {lo:List (Nat×List LT)} {lb:List Leaf},localLs s.L lo=some lb -> ∀ l∈lb,arrOk l
 | [],lb,hs,l,hl=>by
  simp only [localLs,Option.some.injEq] at hs
  subst hs
  cases hl
 | (k,ts)::r,lb,hs,l,hl=>by
  unfold localLs at hs
  split at hs
  ·rename_i σ ls q hL hq
   split at hs
   ·injection hs with hs
    subst hs
    rcases List.mem_append.1 hl with hl | hl
    ·obtain ⟨cur,T,_,_,h1,_⟩:=h.locals k σ ls hL
     exact repLs_arr h1 l hl
    ·exact localLs_arr h hq l hl
   ·cases hs
  ·cases hs
theorem head_rel {n:Ann} {x:n.D} {hd:PSt} {M I:Nat->Prop} (h0:MRel F g0 st (tm a0) w0) (hl:Lft M I g0 a0 w0 g a w) (hM:∀ i,M i->n.has i=true) (h:MRel F g s (tm a) w) (hc:collect n s=some x)
    (hk:∀ k,k∈n.kept -> ∀ σ0 ls0,st.L k=some (σ0,ls0) -> ∃ σ ls,s.L k=some (σ,ls) /\ ls.map unown=ls0.map unown) (hh:headSt n st x=some hd) :
    ∃ g',MRel F g' hd (tm a) w /\ g'.C=g.C /\ g'.ρ=g.ρ /\ (∀ k σ,σ≠n.id->g'.H k σ=g.H k σ) /\ ∀ k ls,keptL n st k=some (n.id,ls)->g'.H k n.id=ls:=by
  unfold collect at hc
  split at hc
  case h_2=>cases hc
  rename_i la lb hla hlb
  split at hc
  case h_2=>cases hc
  rename_i ks xs htake
  split at hc
  case h_2=>cases hc
  rename_i hdt
  have hun:unpackD (n.ts.map LT.ty) x=xs:=unpack_pack _ _ _ hc
  unfold headSt at hh
  rw [hun] at hh
  split at hh
  · cases hh
  rename_i ls' hmk
  injection hh with hh
  obtain ⟨hsame,_⟩:=take_mk (fun l hl=>.inl (by
    rcases List.mem_append.1 hl with hl | hl
    · exact slotLs_arr h hla l hl
    · exact localLs_arr h hlb l hl)) htake hmk
  have T:Turn F g s.O F (headG g n st ks) (fun t=>hasT (.zero::labs (Tok.hd n.id) n.ts 0) t) (fun k k'=>TokAt n.ts ks (Tok.hd n.id) 0 k k' /\ s.O k=true):=by
    refine ⟨rfl,fun k k' hσ _=>⟨hσ.2,?_⟩,fun k k' b o _ _ _ _ hw=>hw⟩
    obtain ⟨⟨i,E,e,h1,h2,rfl⟩,_⟩:=hσ
    show (match Nat.beq n.id n.id with | true=>g.blk (ks.getD (0+i) .zero) | false=>none)=_
    rw [show Nat.beq n.id n.id=true by simp,List.getD_eq_getElem?_getD,Nat.zero_add,h2];rfl
  have liveH:∀ k,hasT (.zero::labs (Tok.hd n.id) n.ts 0) k=true->k=.zero \/ ∃ i k0,k=.hd n.id i /\ ks[i]? = some k0 /\ s.O k0=true /\ (headG g n st ks).blk k=g.blk k0:=fun k hk=>by
    rcases List.mem_cons.1 (hasT_iff.1 hk) with rfl | hm
    · exact .inl rfl
    · obtain ⟨i,E,e,h1,rfl⟩:=labs_mem.1 hm
      obtain ⟨k0,q1,q2⟩:=take_ks htake i E e h1
      refine .inr ⟨i,k0,by rw [Nat.zero_add],q1,q2,?_⟩
      show (match Nat.beq n.id n.id with | true=>g.blk (ks.getD (0+i) .zero) | false=>none)=_
      rw [show Nat.beq n.id n.id=true by simp,List.getD_eq_getElem?_getD,Nat.zero_add,q1];rfl
  have hlen:la.length=lenTs n.slots:=slotLs_len hla
  -- the locals of the head
  have locH : ∀ k σ l, hd.L k = some (σ, l) -> (σ = 0 /\ ∃ σ1 l1, s.L k = some (σ1, l1) /\ SameLs (fun k k' => TokAt n.ts ks (Tok.hd n.id) 0 k k' /\ s.O k = true) l1 l) \/
      (σ=n.id /\ keptL n st k=some (n.id,l) /\ (∀ y∈l,isD y=true) /\ ∃ σ1 l1,s.L k=some (σ1,l1) /\ l=l1.map unown):=fun k σ l hL=>by
    rw [<-hh] at hL
    have hL':(match nthL n.locals (ls'.drop (lenTs n.slots)) k with | some l=>some (0,l) | none=>keptL n st k)=some (σ,l):=hL
    split at hL'
    · rename_i l0 hn
      simp only [Option.some.injEq,Prod.mk.injEq] at hL'
      obtain ⟨rfl,rfl⟩:=hL'
      obtain ⟨l1,h1,h2⟩:=nthL_same (hsame.drop (lenTs n.slots)) hn
      rw [<-hlen,List.drop_left] at h1
      obtain ⟨σ1,h3⟩:=local_at hlb h1
      exact .inl ⟨rfl,σ1,l1,h3,h2⟩
    · obtain ⟨e1,e2,σ0,l0,e3,e4⟩:=keptL_some hL'
      obtain ⟨σ1,l1,q1,q2⟩:=hk k e2 σ0 l0 e3
      subst e1
      exact .inr ⟨rfl,hL',by rw [e4];intro y hy;obtain ⟨z,_,rfl⟩:=List.mem_map.1 hy;exact unown_D z,σ1,l1,q1,by rw [e4,q2]⟩
  have locS:∀ k y,hd.L k=some y -> ∃ z,s.L k=some z:=fun k y hy=>by
    rcases locH k y.1 y.2 hy with ⟨_,σ1,l1,h1,_⟩ | ⟨_,_,_,σ1,l1,h1,_⟩ <;> exact ⟨_,h1⟩
  have hO:∀ k,hd.O k=hasT (.zero::labs (Tok.hd n.id) n.ts 0) k:=fun k=>by rw [<-hh]
  have slotH:∀ i,(∃ ag l l',hd.φ i=.w ag l' /\ s.φ i=.w ag l /\ SameLs (fun k k'=>TokAt n.ts ks (Tok.hd n.id) 0 k k' /\ s.O k=true) l l') \/ hd.φ i=.dead \/ (n.has i=false /\ hd.φ i=unownP (st.φ i) /\ ∀ k,k∈keyP (st.φ i)->n.has k=false /\ n.knowsL st k=true):=fun i=>by
    rw [<-hh]
    show (∃ ag l l',(match nthS n.slots ls' i with | some p=>p | none=>_)=PV.w ag l' /\ _) \/ (match nthS n.slots ls' i with | some p=>p | none=>_)=PV.dead \/ (_ /\ (match nthS n.slots ls' i with | some p=>p | none=>_)=_ /\ _)
    cases hn:nthS n.slots ls' i with
    | some p=>
      obtain ⟨ag,l,l',h1,h2,h3⟩:=nthS_same hsame hn
      exact .inl ⟨ag,l,l',h1,slot_at hla h2,h3⟩
    | none=>
      right
      simp only
      cases hdd:hasN n.dead i with
      | true=>exact .inl rfl
      | false=>
        simp only
        have hnot:n.has i=false:=by
          unfold Ann.has
          rw [hdd,Bool.false_or]
          apply Bool.eq_false_iff.2
          intro hany
          obtain ⟨p,hp,hb⟩:=List.any_eq_true.1 hany
          have hsome:∀ (sl:List (Nat×Bool×List LT)) (q:List Leaf),p∈sl->nthS sl q i≠none:=by
            intro sl
            induction sl with
            | nil=>intro q hm;cases hm
            | cons y sl ih=>
              intro q hm
              obtain ⟨j,ag,ts⟩:=y
              unfold nthS
              cases hij:Nat.beq i j with
              | true=>simp
              | false=>
                rcases List.mem_cons.1 hm with rfl | hm
                · rw [hij] at hb;cases hb
                · exact ih _ hm
          exact hsome _ _ hp hn
        cases hp:st.φ i with
        | w ag l=>exact .inr ⟨hnot,rfl,fun k hk=>by cases hk⟩
        | tup xs=>exact .inr ⟨hnot,rfl,fun k hk=>by cases hk⟩
        | elem l=>exact .inr ⟨hnot,rfl,fun k hk=>by cases hk⟩
        | raw v=>exact .inr ⟨hnot,rfl,fun k hk=>by cases hk⟩
        | spec _ _ _ _=>exact .inl rfl
        | dead=>exact .inl rfl
        | loc k f=>
          simp only [unownP]
          cases hb:(!(n.has k)&&n.knowsL st k) with
          | false=>exact .inl rfl
          | true=>
            simp only [Bool.and_eq_true,Bool.not_eq_true'] at hb
            exact .inr ⟨hnot, rfl, fun k' hk => by have e : k' = k := by simpa [keyP] using hk
                                                   rw [e];exact hb⟩
        | row k m t=>
          simp only [unownP]
          cases hb:(!(n.has k)&&n.knowsL st k) with
          | false=>exact .inl rfl
          | true=>
            simp only [Bool.and_eq_true,Bool.not_eq_true'] at hb
            exact .inr ⟨hnot, rfl, fun k' hk => by have e : k' = k := by simpa [keyP] using hk
                                                   rw [e];exact hb⟩
        | locE k f e j q=>
          simp only [unownP]
          cases hb:(!(n.has k)&&n.knowsL st k) with
          | false=>exact .inl rfl
          | true=>
            simp only [Bool.and_eq_true,Bool.not_eq_true'] at hb
            exact .inr ⟨hnot, rfl, fun k' hk => by have e : k' = k := by simpa [keyP] using hk
                                                   rw [e];exact hb⟩
  have notM:∀ i,n.has i=false -> ¬ M i:=fun i hi hm=>by rw [hM i hm] at hi;cases hi
  refine ⟨headG g n st ks,⟨h.fr,fun i=>?_,fun k σ l hL=>?_,fun k σ l hL hσ=>?_,fun t b hb=>?_,fun i t want ag l hs=>?_,fun d hdd=>?_,fun i k hkk=>?_,rfl,fun k k' b hk1 hk2 hb hb'=>?_,fun k b j y hk1 hb hL=>?_,fun k b hk1 hb=>?_,fun k b hk1 hb=>?_,fun j j' y y' hj hj' he=>?_⟩,
    rfl,rfl,fun k σ hne=>headG_H hne,fun k ls hkl=>?_⟩
  · rcases slotH i with ⟨ag,l,l',e1,e2,e3⟩ | e | ⟨e1,e2,e3⟩
    · rw [e1]
      have h1:=h.slots i
      rw [e2] at h1
      have h2:RelV F g w s.O (tm a i) ag l:=h1
      have h3:=h2.turn T e3
      obtain ⟨cs,q1,q2⟩:=h3
      refine ⟨cs,?_,q2⟩
      have:hd.O=fun t=>hasT (.zero::labs (Tok.hd n.id) n.ts 0) t:=funext hO
      rw [this];exact q1
    · rw [e];trivial
    · rw [e2,hl.tmp i (notM i e1)]
      exact unownP_rel (h0.slots i) hl.gw fun k hk=>hl.ρ k (notM k (e3 k hk).1)
  · have eO:hd.O=fun t=>hasT (.zero::labs (Tok.hd n.id) n.ts 0) t:=funext hO
    rw [eO]
    rcases locH k σ l hL with ⟨_,σ1,l1,h1,h2⟩ | ⟨_,_,_,σ1,l1,h1,h2⟩
    · exact (h.locals k σ1 l1 h1).turn T (fun _ _ hw=>hw) h2
    · rw [h2]
      have h3:=LocOk.less (O':=fun _=>false) unown_less (h.locals k σ1 l1 h1)
      obtain ⟨cur,T0,c1,c2,c3,c4⟩:=h3
      refine ⟨cur,T0,c1,c2,c3.gw (g':=headG g n st ks) (Gw.refl w g.C) fun k' E e x hm=>?_,c4⟩
      obtain ⟨z,_,hz⟩:=List.mem_map.1 hm
      have:=unown_D z
      rw [hz] at this;cases this
  · rcases locH k σ l hL with ⟨e,_⟩ | ⟨e,hkl,hD,_⟩
    · exact (hσ e).elim
    · refine ⟨?_,hD⟩
      subst e
      show (match Nat.beq n.id n.id with | true=>(match keptL n st k with | some (_,ls)=>ls | none=>[]) | false=>_)=l
      rw [show Nat.beq n.id n.id=true by simp,hkl]
  · rw [<-hh] at hb;cases hb
  · rcases slotH i with ⟨ag',l1,l',e1,e2,e3⟩ | e | ⟨e1,e2,e3⟩
    · rw [e1] at hs;cases hs
    · rw [e] at hs;cases hs
    · rw [e2] at hs
      cases hp:st.φ i <;> rw [hp] at hs <;> simp only [unownP] at hs <;> cases hs
  · rw [<-hh] at hdd;cases hdd
  · rcases slotH i with ⟨ag',l1,l',e1,e2,e3⟩ | e | ⟨e1,e2,e3⟩
    · rw [e1] at hkk;cases hkk
    · rw [e] at hkk;cases hkk
    · rw [e2] at hkk
      have hkk':k∈keyP (st.φ i):=by
        cases hp:st.φ i <;> rw [hp] at hkk <;> simp only [unownP] at hkk <;> first | exact hkk | cases hkk
      have hkn:=(e3 k hkk').2
      rw [<-hh]
      show (match nthL n.locals (ls'.drop (lenTs n.slots)) k with | some l=>some (0,l) | none=>keptL n st k).isSome=true
      unfold Ann.knowsL at hkn
      simp only [Bool.or_eq_true] at hkn
      rcases hkn with hloc | hkp
      · obtain ⟨l,hl'⟩:=nthL_has (q:=ls'.drop (lenTs n.slots)) hloc
        rw [hl'];rfl
      · cases nthL n.locals (ls'.drop (lenTs n.slots)) k with
        | some l=>rfl
        | none=>
          cases hq:keptL n st k with
          | some y=>rfl
          | none=>rw [hq] at hkp;cases hkp
  · rw [hO] at hk1 hk2
    rcases liveH k hk1 with rfl | ⟨i,k0,rfl,q1,q2,q3⟩
    · cases hb
    rcases liveH k' hk2 with rfl | ⟨i',k0',rfl,q1',q2',q3'⟩
    · cases hb'
    rw [q3] at hb;rw [q3'] at hb'
    have e1:=h.blkI k0 k0' b q2 q2' hb hb'
    subst e1
    have hz:k0≠.zero:=fun e=>by rw [e,h.blk0] at hb;cases hb
    rw [distinct_at hdt q1 q1' hz]
  · rw [hO] at hk1
    rcases liveH k hk1 with rfl | ⟨i,k0,rfl,q1,q2,q3⟩
    · cases hb
    rw [q3] at hb
    obtain ⟨z,hz⟩:=locS j y hL
    exact h.blkL k0 b j z q2 hb hz
  · rw [hO] at hk1
    rcases liveH k hk1 with rfl | ⟨i,k0,rfl,q1,q2,q3⟩
    · cases hb
    rw [q3] at hb
    exact h.blkS k0 b q2 hb
  · rw [hO] at hk1
    rcases liveH k hk1 with rfl | ⟨i,k0,rfl,q1,q2,q3⟩
    · cases hb
    rw [q3] at hb
    exact h.blkW k0 b q2 hb
  · obtain ⟨z,hz⟩:=locS j y hj
    obtain ⟨z',hz'⟩:=locS j' y' hj'
    exact h.ρI j j' z z' hz hz' he
  · show (match Nat.beq n.id n.id with | true=>(match keptL n st k with | some (_,ls)=>ls | none=>[]) | false=>_)=ls
    rw [show Nat.beq n.id n.id=true by simp,hkl]
end
section
variable {E : Env} {R : Type} {r : R}
theorem bind_some2 {α:Type} {x:Option α} {f:α->Option R} (h:x.bind f=some r):∃ y,x=some y /\ f y=some r:=by
 cases x with
 | none=>cases h
 | some y=>exact ⟨y,rfl,h⟩
theorem chk_bind {α:Type} {b:Bool} {x:Option α} {f:α->Option R}:(chk b x).bind f=chk b (x.bind f):=by cases b <;> rfl
theorem binI_nat {op:BinOp} {k:IntKind} {x y:Int} {C:Upd->Option R}:binI op k x y (fun p=>C (Upd.v p))=(binI op k x y (fun p=>some (Upd.v p))).bind C:=by
 cases op <;> simp [binI,chk_bind]
theorem shI_nat {op:BinOp} {k:IntKind} {x y:Int} {C:Upd->Option R}:shI op k x y (fun p=>C (Upd.v p))=(shI op k x y (fun p=>some (Upd.v p))).bind C:=by
 cases op <;> simp [shI,chk_bind]
theorem binS_nat {op:BinOp} {x y:List Int} {C:Upd->Option R}:binS op x y (fun p=>C (Upd.v p))=(binS op x y (fun p=>some (Upd.v p))).bind C:=by
 cases op <;> simp [binS,chk_bind]
theorem binF_nat {op:BinOp} {k:FloatKind} {x y:Nat} {C:Upd->Option R}:binF op k x y (fun p=>C (Upd.v p))=(binF op k x y (fun p=>some (Upd.v p))).bind C:=by
 cases op <;> simp [binF,Option.bind_assoc]
theorem binC_nat {op:BinOp} {k:FloatKind} {x y:Nat×Nat} {C:Upd->Option R}:binC op k x y (fun p=>C (Upd.v p))=(binC op k x y (fun p=>some (Upd.v p))).bind C:=by
 cases op <;> simp [binC,Option.bind_assoc]
theorem binP_nat {op:BinOp} {p q:PV} {C:Upd->Option R}:binP op p q (fun p=>C (Upd.v p))=(binP op p q (fun p=>some (Upd.v p))).bind C:=by
 unfold binP
 split
 ·split
  ·exact shI_nat
  ·exact shI_nat
  ·split
   ·exact binI_nat
   ·rfl
 ·exact binS_nat
 ·split
  ·exact binF_nat
  ·rfl
 ·split
  ·exact binC_nat
  ·rfl
 ·rfl
theorem lendC_nat {C:Upd->Option R} {u:Upd} (hv:lendC C u=some r):C u=some r /\ ∀ {R':Type} (C':Upd->Option R'),lendC C' u=C' u:=by
 unfold lendC at hv ⊢
 repeat' split at hv
 all_goals first
  | (cases hv;done)
  | (refine ⟨hv,fun {_} C'=>?_⟩;simp [*];done)
theorem appP_nat {P:Program} {o:Oper} {t u:TypeId} {st:PSt} {p q:PV} {C:Upd->Option R} (hv:appP P o t u st p q C=some r):∃ u',C u'=some r /\ ∀ {R':Type} (C':Upd->Option R'),appP P o t u st p q C'=C' u':=by
 unfold appP at hv ⊢
 repeat' split at hv
 all_goals first
  | (cases hv;done)
  | (obtain ⟨h1,h2⟩:=chk_some hv;refine ⟨_,h2,fun {_} C'=>?_⟩;simp [*,chk];done)
theorem appT_nat {P:Program} {o:Oper} {t u:TypeId} {p q:PV} {C:Upd->Option R} (hv:appT P o t u p q C=some r):∃ u',C u'=some r /\ ∀ {R':Type} (C':Upd->Option R'),appT P o t u p q C'=C' u':=by
 unfold appT at hv ⊢
 repeat' split at hv
 all_goals first
  | (cases hv;done)
  | (obtain ⟨h1,h2⟩:=chk_some hv;refine ⟨_,h2,fun {_} C'=>?_⟩;simp [*,chk];done)
theorem appL_nat {P:Program} {o:Oper} {t u:TypeId} {st:PSt} {x y:Operand} {ev:Operand->PV} {C:Upd->Option R} (hv:appL P o t u st x y ev C=some r):∃ u',C u'=some r /\ ∀ {R':Type} (C':Upd->Option R'),appL P o t u st x y ev C'=C' u':=by
 unfold appL at hv ⊢
 cases hK:rowKeys ev [x,y] with
 | nil=>
  simp only [hK] at hv ⊢
  exact appP_nat hv
 | cons k K=>
  simp only [hK] at hv ⊢
  obtain ⟨h0,hv⟩:=chk_some hv
  simp only [h0]
  cases hr:isRow (ev x) with
  | true=>
   simp only [hr] at hv ⊢
   cases ht:isTight (ev x) with
   | true=>
    simp only [ht] at hv ⊢
    obtain ⟨u',h1,h2⟩:=appT_nat hv
    obtain ⟨h3,h4⟩:=lendC_nat h1
    exact ⟨u',h3,fun {_} C'=>(h2 (lendC C')).trans (h4 C')⟩
   | false=>simp only [ht] at hv;cases hv
  | false=>
   simp only [hr] at hv ⊢
   obtain ⟨u',h1,h2⟩:=appP_nat hv
   obtain ⟨h3,h4⟩:=lendC_nat h1
   exact ⟨u',h3,fun {_} C'=>(h2 (lendC C')).trans (h4 C')⟩
theorem bltP_nat {o:Oper} {b:Builtin} {args:List Operand} {ts:List TypeId} {st:PSt} {ev:Operand->PV} {C:Upd->Option R} (hv:bltP E o b args ts st ev C=some r):∃ u,C u=some r /\ ∀ {R':Type} (C':Upd->Option R'),bltP E o b args ts st ev C'=C' u:=by
 unfold bltP at hv ⊢
 split at hv
 ·repeat' split at hv
  all_goals first
   | (cases hv;done)
   | (refine ⟨_,hv,fun {_} C'=>?_⟩;simp [*];done)
   | (obtain ⟨h1,h2⟩:=chk_some hv;refine ⟨_,h2,fun {_} C'=>?_⟩;simp [*,chk];done)
 ·split at hv
  ·repeat' split at hv
   all_goals first
    | (cases hv;done)
    | (refine ⟨_,hv,fun {_} C'=>?_⟩;simp [*];done)
  ·repeat' split at hv
   all_goals first
    | (cases hv;done)
    | (refine ⟨_,hv,fun {_} C'=>?_⟩;simp [*];done)
  ·obtain ⟨u,h1,h2⟩:=appL_nat hv
   exact ⟨u,h1,fun {_} C'=>h2 C'⟩
  ·repeat' split at hv
   all_goals first
    | (cases hv;done)
    | (refine ⟨_,hv,fun {_} C'=>?_⟩;simp [*];done)
  ·cases hv
 ·cases hv
theorem callP_nat {s:Sig} {f:s.Fn} {dst:Option Nat} {args:List Operand} {ats:List TypeId} {st:PSt} {ev:Operand->PV} {C:Upd->Option R} (hv:callP E s f dst args ats st ev C=some r):∃ u,C u=some r /\ ∀ {R':Type} (C':Upd->Option R'),callP E s f dst args ats st ev C'=C' u:=by
 unfold callP at hv ⊢
 split at hv
 ·split at hv
  ·split at hv
   ·obtain ⟨y,h1,h2⟩:=bind_some2 hv
    split at h2
    ·exact ⟨_,h2,fun {_} C'=>by simp [*]⟩
    ·cases h2
   ·cases hv
  ·cases hv
 ·cases hv
theorem rowC_nat {dst:Option Nat} {fr:List Nat} {C:Upd->Option R} {u:Upd} (hv:rowC E dst fr C u=some r):∃ u',C u'=some r /\ ∀ {R':Type} (C':Upd->Option R'),rowC E dst fr C' u=C' u':=by
 unfold rowC at hv ⊢
 repeat' split at hv
 all_goals first
  | (cases hv;done)
  | (refine ⟨_,hv,fun {_} C'=>?_⟩;simp [*];done)
  | (obtain ⟨h1,h2⟩:=chk_some hv;refine ⟨_,h2,fun {_} C'=>?_⟩;simp [*,chk];done)
theorem rowM_nat {dst:Option Nat} {fr:List Nat} {tt:Bool} {C:Upd->Option R} {u:Upd} (hv:rowM E dst fr tt C u=some r):∃ u',C u'=some r /\ ∀ {R':Type} (C':Upd->Option R'),rowM E dst fr tt C' u=C' u':=by
 unfold rowM at hv ⊢
 repeat' split at hv
 all_goals first
  | (cases hv;done)
  | (refine ⟨_,hv,fun {_} C'=>?_⟩;simp [*];done)
  | (obtain ⟨h1,h2⟩:=chk_some hv;refine ⟨_,h2,fun {_} C'=>?_⟩;simp [*,chk];done)
theorem callL_nat {s:Sig} {f:s.Fn} {dst:Option Nat} {args:List Operand} {ats:List TypeId} {st:PSt} {ev:Operand->PV} {C:Upd->Option R} (hv:callL E s f dst args ats st ev C=some r):∃ u,C u=some r /\ ∀ {R':Type} (C':Upd->Option R'),callL E s f dst args ats st ev C'=C' u:=by
 unfold callL at hv ⊢
 split at hv
 ·obtain ⟨u,h1,h2⟩:=callP_nat hv
  obtain ⟨u',h3,h4⟩:=rowC_nat h1
  exact ⟨u',h3,fun {_} C'=>by simp only [*]⟩
 ·obtain ⟨h0,hv⟩:=chk_some hv
  obtain ⟨u,h1,h2⟩:=callP_nat hv
  obtain ⟨h3,h4⟩:=lendC_nat h1
  obtain ⟨u',h5,h6⟩:=rowC_nat h3
  exact ⟨u',h5,fun {_} C'=>by rw [h0,h2,h4,h6];rfl⟩
theorem extP_nat {fn:Func} {ps:List PV} {C:Upd->Option R} (hv:extP fn ps C=some r):∃ u,C u=some r /\ ∀ {R':Type} (C':Upd->Option R'),extP fn ps C'=C' u:=by
 unfold extP at hv ⊢
 split at hv
 ·unfold addP at hv ⊢
  obtain ⟨h1,h2⟩:=chk_some hv
  exact ⟨_,h2,fun {_} C'=>by simp only [h1];rfl⟩
 ·cases hv
theorem pvU_nat {o:Oper} {st:PSt} {ev:Operand->PV} {C:Upd->Option R} (hv:pvU E o st ev C=some r):∃ u,C u=some r /\ ∀ {R':Type} (C':Upd->Option R'),pvU E o st ev C'=C' u:=by
  obtain ⟨dst,op,type,pos,after,guard⟩:=o
  cases op with
  | move x=>
    simp only [pvU] at hv ⊢
    repeat' split at hv
    all_goals first
      | (cases hv;done)
      | (refine ⟨_,hv,fun {_} C'=>?_⟩;simp [*];done)
      | (obtain ⟨h1,h2⟩:=chk_some hv;refine ⟨_,h2,fun {_} C'=>?_⟩;simp [*,chk];done)
      | (obtain ⟨y, h1, h2⟩ := bind_some2 hv; repeat' split at h2
         all_goals first
          | (cases h2;done)
          | (refine ⟨_,h2,fun {_} C'=>?_⟩;simp [*];done))
  | assign x=>
    simp only [pvU] at hv ⊢
    repeat' split at hv
    all_goals first
      | (cases hv;done)
      | (refine ⟨_,hv,fun {_} C'=>?_⟩;simp [*];done)
      | (obtain ⟨h1,h2⟩:=chk_some hv;refine ⟨_,h2,fun {_} C'=>?_⟩;simp [*,chk];done)
      | (obtain ⟨y, h1, h2⟩ := bind_some2 hv; repeat' split at h2
         all_goals first
          | (cases h2;done)
          | (refine ⟨_,h2,fun {_} C'=>?_⟩;simp [*];done))
  | nilCheck x=>
    simp only [pvU] at hv ⊢
    repeat' split at hv
    all_goals first
      | (cases hv;done)
      | (refine ⟨_,hv,fun {_} C'=>?_⟩;simp [*];done)
      | (obtain ⟨h1,h2⟩:=chk_some hv;refine ⟨_,h2,fun {_} C'=>?_⟩;simp [*,chk];done)
      | (obtain ⟨y, h1, h2⟩ := bind_some2 hv; repeat' split at h2
         all_goals first
          | (cases h2;done)
          | (refine ⟨_,h2,fun {_} C'=>?_⟩;simp [*];done))
  | alloc t=>
    simp only [pvU] at hv ⊢
    repeat' split at hv
    all_goals first
      | (cases hv;done)
      | (refine ⟨_,hv,fun {_} C'=>?_⟩;simp [*];done)
      | (obtain ⟨h1,h2⟩:=chk_some hv;refine ⟨_,h2,fun {_} C'=>?_⟩;simp [*,chk];done)
      | (obtain ⟨y, h1, h2⟩ := bind_some2 hv; repeat' split at h2
         all_goals first
          | (cases h2;done)
          | (refine ⟨_,h2,fun {_} C'=>?_⟩;simp [*];done))
  | box t x=>
    simp only [pvU] at hv ⊢
    repeat' split at hv
    all_goals first
      | (cases hv;done)
      | (refine ⟨_,hv,fun {_} C'=>?_⟩;simp [*];done)
      | (obtain ⟨h1,h2⟩:=chk_some hv;refine ⟨_,h2,fun {_} C'=>?_⟩;simp [*,chk];done)
      | (obtain ⟨y, h1, h2⟩ := bind_some2 hv; repeat' split at h2
         all_goals first
          | (cases h2;done)
          | (refine ⟨_,h2,fun {_} C'=>?_⟩;simp [*];done))
  | load t x=>
    simp only [pvU] at hv ⊢
    repeat' split at hv
    all_goals first
      | (cases hv;done)
      | (refine ⟨_,hv,fun {_} C'=>?_⟩;simp [*];done)
      | (obtain ⟨h1,h2⟩:=chk_some hv;refine ⟨_,h2,fun {_} C'=>?_⟩;simp [*,chk];done)
      | (obtain ⟨y, h1, h2⟩ := bind_some2 hv; repeat' split at h2
         all_goals first
          | (cases h2;done)
          | (refine ⟨_,h2,fun {_} C'=>?_⟩;simp [*];done))
  | store t x y=>
    simp only [pvU] at hv ⊢
    repeat' split at hv
    all_goals first
      | (cases hv;done)
      | (refine ⟨_,hv,fun {_} C'=>?_⟩;simp [*];done)
      | (obtain ⟨h1,h2⟩:=chk_some hv;refine ⟨_,h2,fun {_} C'=>?_⟩;simp [*,chk];done)
      | (obtain ⟨y, h1, h2⟩ := bind_some2 hv; repeat' split at h2
         all_goals first
          | (cases h2;done)
          | (refine ⟨_,h2,fun {_} C'=>?_⟩;simp [*];done))
  | fieldAddr s x f=>
    simp only [pvU] at hv ⊢
    repeat' split at hv
    all_goals first
      | (cases hv;done)
      | (refine ⟨_,hv,fun {_} C'=>?_⟩;simp [*];done)
      | (obtain ⟨h1,h2⟩:=chk_some hv;refine ⟨_,h2,fun {_} C'=>?_⟩;simp [*,chk];done)
      | (obtain ⟨y, h1, h2⟩ := bind_some2 hv; repeat' split at h2
         all_goals first
          | (cases h2;done)
          | (refine ⟨_,h2,fun {_} C'=>?_⟩;simp [*];done))
  | indexAddr t x i=>
    simp only [pvU] at hv ⊢
    repeat' split at hv
    all_goals first
      | (cases hv;done)
      | (obtain ⟨k',q1,q2,q3,q4⟩:=splitIx_some hv;refine ⟨_,q4,fun {_} C'=>?_⟩;subst q3;simp [*,splitIx_eq q1 q2];done)
      | (refine ⟨_,hv,fun {_} C'=>?_⟩;simp [*];done)
      | (obtain ⟨h1,h2⟩:=chk_some hv;refine ⟨_,h2,fun {_} C'=>?_⟩;simp [*,chk];done)
      | (obtain ⟨y, h1, h2⟩ := bind_some2 hv; repeat' split at h2
         all_goals first
          | (cases h2;done)
          | (refine ⟨_,h2,fun {_} C'=>?_⟩;simp [*];done))
  | index t x i=>
    simp only [pvU] at hv ⊢
    repeat' split at hv
    all_goals first
      | (cases hv;done)
      | (refine ⟨_,hv,fun {_} C'=>?_⟩;simp [*];done)
      | (obtain ⟨h1,h2⟩:=chk_some hv;refine ⟨_,h2,fun {_} C'=>?_⟩;simp [*,chk];done)
      | (obtain ⟨y, h1, h2⟩ := bind_some2 hv; repeat' split at h2
         all_goals first
          | (cases h2;done)
          | (refine ⟨_,h2,fun {_} C'=>?_⟩;simp [*];done))
  | slice t x lo hi mx=>
    simp only [pvU] at hv ⊢
    repeat' split at hv
    all_goals first
      | (cases hv;done)
      | (refine ⟨_,hv,fun {_} C'=>?_⟩;simp [*];done)
      | (obtain ⟨h1,h2⟩:=chk_some hv;refine ⟨_,h2,fun {_} C'=>?_⟩;simp [*,chk];done)
      | (obtain ⟨y, h1, h2⟩ := bind_some2 hv; repeat' split at h2
         all_goals first
          | (cases h2;done)
          | (refine ⟨_,h2,fun {_} C'=>?_⟩;simp [*];done))
  | field s x f=>
    simp only [pvU] at hv ⊢
    repeat' split at hv
    all_goals first
      | (cases hv;done)
      | (refine ⟨_,hv,fun {_} C'=>?_⟩;simp [*];done)
      | (obtain ⟨h1,h2⟩:=chk_some hv;refine ⟨_,h2,fun {_} C'=>?_⟩;simp [*,chk];done)
      | (obtain ⟨y, h1, h2⟩ := bind_some2 hv; repeat' split at h2
         all_goals first
          | (cases h2;done)
          | (refine ⟨_,h2,fun {_} C'=>?_⟩;simp [*];done))
  | extract x i=>
    simp only [pvU] at hv ⊢
    repeat' split at hv
    all_goals first
      | (cases hv;done)
      | (refine ⟨_,hv,fun {_} C'=>?_⟩;simp [*];done)
      | (obtain ⟨h1,h2⟩:=chk_some hv;refine ⟨_,h2,fun {_} C'=>?_⟩;simp [*,chk];done)
      | (obtain ⟨y, h1, h2⟩ := bind_some2 hv; repeat' split at h2
         all_goals first
          | (cases h2;done)
          | (refine ⟨_,h2,fun {_} C'=>?_⟩;simp [*];done))
  | build t parts=>
    simp only [pvU] at hv ⊢
    repeat' split at hv
    all_goals first
      | (cases hv;done)
      | (refine ⟨_,hv,fun {_} C'=>?_⟩;simp [*];done)
      | (obtain ⟨h1,h2⟩:=chk_some hv;refine ⟨_,h2,fun {_} C'=>?_⟩;simp [*,chk];done)
      | (obtain ⟨y, h1, h2⟩ := bind_some2 hv; repeat' split at h2
         all_goals first
          | (cases h2;done)
          | (refine ⟨_,h2,fun {_} C'=>?_⟩;simp [*];done))
  | buildSlice t len parts=>
    simp only [pvU] at hv ⊢
    repeat' split at hv
    all_goals first
      | (cases hv;done)
      | (refine ⟨_,hv,fun {_} C'=>?_⟩;simp [*];done)
      | (obtain ⟨h1,h2⟩:=chk_some hv;refine ⟨_,h2,fun {_} C'=>?_⟩;simp [*,chk];done)
      | (obtain ⟨y, h1, h2⟩ := bind_some2 hv; repeat' split at h2
         all_goals first
          | (cases h2;done)
          | (refine ⟨_,h2,fun {_} C'=>?_⟩;simp [*];done))
  | makeSlice t n c=>
    simp only [pvU] at hv ⊢
    repeat' split at hv
    all_goals first
      | (cases hv;done)
      | (obtain ⟨h1, h2⟩ := chk_some hv
         obtain ⟨u',h3,h4⟩:=rowM_nat h2
         exact ⟨u',h3,fun {_} C'=>by simp [*,chk]⟩)
  | unOp op ty x=>
    simp only [pvU] at hv ⊢
    repeat' split at hv
    all_goals first
      | (cases hv;done)
      | (refine ⟨_,hv,fun {_} C'=>?_⟩;simp [*];done)
      | (obtain ⟨h1,h2⟩:=chk_some hv;refine ⟨_,h2,fun {_} C'=>?_⟩;simp [*,chk];done)
      | (obtain ⟨y, h1, h2⟩ := bind_some2 hv; repeat' split at h2
         all_goals first
          | (cases h2;done)
          | (refine ⟨_,h2,fun {_} C'=>?_⟩;simp [*];done))
  | convert src dst x=>
    simp only [pvU] at hv ⊢
    repeat' split at hv
    all_goals first
      | (cases hv;done)
      | (refine ⟨_,hv,fun {_} C'=>?_⟩;simp [*];done)
      | (obtain ⟨h1,h2⟩:=chk_some hv;refine ⟨_,h2,fun {_} C'=>?_⟩;simp [*,chk];done)
      | (obtain ⟨y, h1, h2⟩ := bind_some2 hv; repeat' split at h2
         all_goals first
          | (cases h2;done)
          | (refine ⟨_,h2,fun {_} C'=>?_⟩;simp [*];done))
  | binOp op ty x y uy=>
    simp only [pvU] at hv ⊢
    split at hv
    · repeat' split at hv
      all_goals first
        | (cases hv;done)
        | (refine ⟨_,hv,fun {_} C'=>?_⟩;simp [*];done)
        | (obtain ⟨h1,h2⟩:=chk_some hv;refine ⟨_,h2,fun {_} C'=>?_⟩;simp [*,chk];done)
    · repeat' split at hv
      all_goals first
        | (cases hv;done)
        | (refine ⟨_,hv,fun {_} C'=>?_⟩;simp [*];done)
        | (obtain ⟨h1,h2⟩:=chk_some hv;refine ⟨_,h2,fun {_} C'=>?_⟩;simp [*,chk];done)
    · repeat' split at hv
      all_goals first
        | (cases hv;done)
        | (refine ⟨_,hv,fun {_} C'=>?_⟩;simp [*];done)
        | (obtain ⟨h1,h2⟩:=chk_some hv;refine ⟨_,h2,fun {_} C'=>?_⟩;simp [*,chk];done)
    · rename_i a b h1 h2 h3
      rw [binP_nat] at hv
      obtain ⟨u,h4,h5⟩:=bind_some2 hv
      exact ⟨u,h5,fun {_} C'=>by rw [binP_nat,h4];rfl⟩
  | call c=>
    obtain ⟨callee,args,argTypes⟩:=c
    cases callee with
    | builtin b=>
      simp only [pvU] at hv ⊢
      exact bltP_nat hv
    | value f=>
      cases f with
      | func f=>
        simp only [pvU] at hv ⊢
        split at hv
        · split at hv
          · obtain ⟨u,h1,h2⟩:=callL_nat hv
            exact ⟨u,h1,fun {_} C'=>by simp [*]⟩
          · cases hv
        · obtain ⟨u,h1,h2⟩:=extP_nat hv
          exact ⟨u,h1,fun {_} C'=>by simp [*]⟩
        · cases hv
      | _=>cases hv
    | _=>cases hv
  | _=>cases hv
structure Sees (o:Oper) (st X:PSt) (ev ev':Operand->PV):Prop where
 ops:∀ x∈o.op.operands,ev' x=ev x
 loc:∀ x∈o.op.operands,∀ k∈keyP (ev x),X.L k=st.L k
 fr:∀ d,o.dst=some d->hasN X.fr d=hasN st.fr d
 tok:readsO o.op=true -> ∀ x∈o.op.operands,∀ t,t∈toksP (ev x) \/ t∈lentToks st.L (ev x)->X.O t=st.O t
 zero:X.O .zero=st.O .zero
theorem buildLs_congr {P:Program} {t:TypeId} {ev ev':Operand->PV}:∀ (ps:List (Nat×Operand)) (ls:List Leaf),(∀ x∈ps.map (·.2),ev' x=ev x)->buildLs P t ev' ps ls=buildLs P t ev ps ls
 | [],_,_=>rfl
 | (i,x)::r,ls,h=>by
  unfold buildLs
  rw [h x (by simp)]
  have ih:=fun ls=>buildLs_congr (P:=P) (t:=t) r ls fun y hy=>h y (by simp at hy ⊢;exact .inr hy)
  simp only [ih]
theorem partsD_congr {P:Program} {e:TypeId} {t:Ty} {ev ev':Operand->PV}:∀ (ps:List (Nat×Operand)) (n:Nat),(∀ x∈ps.map (·.2),ev' x=ev x)->partsD P e t ev' ps n=partsD P e t ev ps n
 | [],_,_=>rfl
 | (i,x)::r,n,h=>by
  unfold partsD
  rw [h x (by simp)]
  have ih:=fun n=>partsD_congr (P:=P) (e:=e) (t:=t) r n fun y hy=>h y (by simp at hy ⊢;exact .inr hy)
  simp only [ih]
theorem boundP_congr {ev ev':Operand->PV} {x:Option Operand} {d:Int} (h:∀ y∈x.toList,ev' y=ev y):boundP ev' x d=boundP ev x d:=by
 cases x with
 | none=>rfl
 | some y=>simp [boundP,h y (by simp)]
theorem toksLs_mem {l:Leaf} {ls:List Leaf} (h:l∈ls) (hz:l.tok≠.zero):l.tok∈toksLs ls:=by
 induction ls with
 | nil=>cases h
 | cons x r ih=>
  unfold toksLs
  rcases List.mem_cons.1 h with rfl | h
  ·refine List.mem_append.2 (.inl ?_)
   unfold gone1
   split
   ·rename_i e;exact (hz e).elim
   ·simp
  ·exact List.mem_append.2 (.inr (ih h))
theorem toks_agree {O O':Tok->Bool} (h0:O' .zero=O .zero) {ls:List Leaf} (h:∀ t∈toksLs ls,O' t=O t):∀ l∈ls,O' l.tok=O l.tok:=fun l hl=>by
 by_cases hz:l.tok=.zero
 ·rw [hz,h0]
 ·exact h _ (toksLs_mem hl hz)
theorem takeAll_congr {O O':Tok->Bool}:∀ (ts:List LT) (ls:List Leaf),(∀ l∈ls,O' l.tok=O l.tok)->takeAll O' ts ls=takeAll O ts ls
 | [],[],_=>rfl
 | [],_::_,_=>rfl
 | _::_,[],_=>rfl
 | t::ts,l::ls,h=>by
  have e1:takeLeaf O' t l=takeLeaf O t l:=by
   have:=h l (by simp)
   cases t with
   | d t=>rfl
   | row e=>
    cases l with
    | own _ _ _ _=>rfl
    | d t x=>cases t <;> rfl
   | own E e=>
    cases l with
    | d t x=>rfl
    | own k E' e' x=>
     have h':O' k=O k:=this
     simp only [takeLeaf,h']
  unfold takeAll
  rw [e1,takeAll_congr ts ls fun l hl=>h l (by simp [hl])]
theorem norm_or (P:Program) (t:TypeId) (p:PV):norm P t p=p \/ ∃ ag ls,norm P t p=.w ag ls:=by
 unfold norm
 split
 ·split
  ·exact .inr ⟨_,_,rfl⟩
  ·exact .inl rfl
 ·split
  ·exact .inr ⟨_,_,rfl⟩
  ·exact .inl rfl
 ·exact .inl rfl
theorem normP_toks {O O':Tok->Bool} (h0:O' .zero=O .zero) {P:Program} {ty:TypeId} {p:PV} (h:∀ t∈toksP p,O' t=O t):∀ {ag:Bool} {ls:List Leaf},norm P ty p=.w ag ls -> ∀ l∈ls,O' l.tok=O l.tok:=fun {ag ls} hn l hl=>by
 unfold norm at hn
 split at hn
 ·split at hn
  ·cases hn
   obtain rfl:=List.mem_singleton.1 hl
   exact h0
  ·cases hn
 ·split at hn
  ·cases hn
   obtain rfl:=List.mem_singleton.1 hl
   exact h0
  ·cases hn
 ·subst hn
  exact toks_agree h0 h l hl
theorem rowKeys_congr {ev ev':Operand->PV}:∀ {args:List Operand},(∀ y∈args,ev' y=ev y)->rowKeys ev' args=rowKeys ev args
 | [],_=>rfl
 | x::xs,h=>by
  have e:=rowKeys_congr (args:=xs) fun y hy=>h y (List.mem_cons_of_mem _ hy)
  unfold rowKeys at e ⊢
  rw [List.flatMap_cons,List.flatMap_cons,h x (by simp),e]
theorem lendPV_congr {b:Bool} {K:List Nat} {L L':Nat->Option (Nat×List Leaf)} {p:PV} (h:∀ k∈keyP p,L' k=L k):lendPV b K L' p=lendPV b K L p:=by
 cases p with
 | row k n t=>
  show lendRow b K L' k n t=lendRow b K L k n t
  unfold lendRow
  rw [h k (by simp [keyP])]
 | _=>rfl
theorem rowOk_congr {L L':Nat->Option (Nat×List Leaf)} {p:PV} (h:∀ k∈keyP p,L' k=L k):rowOk L' p=rowOk L p:=by
 cases p with
 | row k n t=>
  have e:=h k (by simp [keyP])
  simp only [rowOk,e]
 | _=>rfl
theorem lendX_cases (K ts:List Nat) (L:Nat->Option (Nat×List Leaf)) (x:Operand) (p:PV):lendX K ts L x p=p \/ ∃ b,lendX K ts L x p=lendPV b K L p:=by
 cases x with
 | tmp t=>exact .inr ⟨_,rfl⟩
 | _=>exact .inl rfl
theorem lendX_congr {K ts:List Nat} {L L':Nat->Option (Nat×List Leaf)} {x:Operand} {p:PV} (h:∀ k∈keyP p,L' k=L k):lendX K ts L' x p=lendX K ts L x p:=by
 cases x with
 | tmp t=>exact lendPV_congr h
 | _=>rfl
theorem toks_lendPV {b:Bool} {K:List Nat} {L:Nat->Option (Nat×List Leaf)} {p:PV} {t:Tok} (h:t∈toksP (lendPV b K L p)):t∈toksP p:=by
 rcases lendPV_cases b K L p with e | ⟨e,_⟩ | ⟨k,n,_,σ,m,q,l,_,_,_,_,e⟩
 ·rw [e] at h;cases h
 ·rw [e] at h;exact h
 ·rw [e] at h
  have h:t∈([]:List Tok):=h
  cases h
theorem keys_lendPV {b:Bool} {K:List Nat} {L:Nat->Option (Nat×List Leaf)} {p:PV} {k:Nat} (h:k∈keyP (lendPV b K L p)):k∈keyP p /\ hasN K k=false:=by
 rcases lendPV_cases b K L p with e | ⟨e,e2⟩ | ⟨k',n,_,σ,m,q,l,_,_,_,_,e⟩
 ·rw [e] at h;cases h
 ·rw [e] at h;exact ⟨h,e2 k h⟩
 ·rw [e] at h;cases h
theorem appP_congr {P:Program} {o:Oper} {t u:TypeId} {st X:PSt} {p q:PV} (h4:∀ t∈toksP p,X.O t=st.O t) (h0:X.O .zero=st.O .zero) {R':Type} (C:Upd->Option R'):appP P o t u X p q C=appP P o t u st p q C:=by
 unfold appP
 split
 ·split
  ·rename_i k E' ty l i hn _
   have:=normP_toks h0 h4 hn (.own k E' ty l) (by simp)
   have e:X.O k=st.O k:=this
   rw [e]
  ·rfl
 ·rfl
theorem appL_congr {P:Program} {o:Oper} {t u:TypeId} {st X:PSt} {x y:Operand} {ev ev':Operand->PV} (h1:∀ z∈[x,y],ev' z=ev z) (h2:∀ z∈[x,y],∀ k∈keyP (ev z),X.L k=st.L k) (h4:∀ t∈toksP (ev x),X.O t=st.O t) (h0:X.O .zero=st.O .zero) (C:Upd->Option R):appL P o t u X x y ev' C=appL P o t u st x y ev C:=by
 have ex:=h1 x (by simp)
 have ey:=h1 y (by simp)
 unfold appL
 rw [rowKeys_congr h1]
 cases rowKeys ev [x,y] with
 | nil=>
  simp only [ex,ey]
  exact appP_congr h4 h0 C
 | cons k K=>
  have l1:=lendX_congr (K:=k::K) (ts:=tmpsOf [x,y]) (x:=x) (h2 x (by simp))
  have l2:=lendX_congr (K:=k::K) (ts:=tmpsOf [x,y]) (x:=y) (h2 y (by simp))
  simp only [ex,ey,rowOk_congr (h2 x (by simp)),rowOk_congr (h2 y (by simp)),l1,l2]
  congr 1
  split
  ·rfl
  ·refine appP_congr (fun t ht=>h4 t ?_) h0 _
   rcases lendX_cases (k::K) (tmpsOf [x,y]) st.L x (ev x) with e | ⟨b,e⟩
   ·rw [e] at ht;exact ht
   ·rw [e] at ht;exact toks_lendPV ht
theorem bltP_congr {o:Oper} {b:Builtin} {args:List Operand} {ts:List TypeId} {st X:PSt} {ev ev':Operand->PV} (h1:∀ y∈args,ev' y=ev y) (h2:∀ y∈args,∀ k∈keyP (ev y),X.L k=st.L k) (h4:b=.append -> ∀ y∈args,∀ t,t∈toksP (ev y) \/ t∈lentToks st.L (ev y)->X.O t=st.O t) (h0:X.O .zero=st.O .zero) (C:Upd->Option R) :
  bltP E o b args ts X ev' C=bltP E o b args ts st ev C:=by
 unfold bltP
 split
 ·rw [h1 _ (by simp)]
 ·rename_i x y t u
  split
  ·rw [h1 x (by simp),h1 y (by simp)]
  ·rw [h1 x (by simp),h1 y (by simp)]
  ·exact appL_congr h1 h2 (fun t ht=>h4 rfl x (by simp) t (.inl ht)) h0 C
  ·rw [h1 x (by simp),h1 y (by simp)]
  ·rfl
 ·rfl
theorem argsP_congr {P:Program} {st X:PSt} {ev ev':Operand->PV}:∀ (ps:List Par) (xs:List Operand) (ts:List TypeId),(∀ y∈xs,ev' y=ev y)->(∀ y∈xs,∀ k∈keyP (ev y),X.L k=st.L k)->argsP P X ev' ps xs ts=argsP P st ev ps xs ts
 | [],[],_,_,_=>rfl
 | [],_::_,_,_,_=>rfl
 | _::_,[],_,_,_=>rfl
 | p::ps,x::xs,ts,h1,h2=>by
  have e:argP X p (argN P ts (ev x))=argP st p (argN P ts (ev x)):=by
   cases p with
   | v ag l=>cases argN P ts (ev x) <;> rfl
   | m l=>
    have key:∀ q,(∀ k∈keyP q,X.L k=st.L k)->argP X (.m l) q=argP st (.m l) q:=fun q hq=>by
     cases q with
     | loc k off=>simp only [argP,hq k (by simp [keyP])]
     | _=>rfl
    refine key _ fun k hk=>h2 x (by simp) k ?_
    cases ts with
    | nil=>exact hk
    | cons t ts=>
     have hk':k∈keyP (norm P t (ev x)):=hk
     rcases norm_or P t (ev x) with e | ⟨ag,l,e⟩
     ·rw [e] at hk';exact hk'
     ·rw [e] at hk';cases hk'
  unfold argsP
  rw [h1 x (by simp),e,argsP_congr ps xs ts.tail (fun y hy=>h1 y (by simp [hy])) (fun y hy=>h2 y (by simp [hy]))]
theorem argsP_toks {P:Program} {st X:PSt} {ev:Operand->PV} (h0:X.O .zero=st.O .zero):∀ (ps:List Par) (xs:List Operand) (ts:List TypeId) (r:List Leaf×List (Nat×Nat)),(∀ y∈xs,∀ t,t∈toksP (ev y) \/ t∈lentToks st.L (ev y)->X.O t=st.O t)->argsP P st ev ps xs ts=some r -> ∀ l∈r.1,X.O l.tok=st.O l.tok
 | [],[],_,_,_,h=>by
  intro l hl
  have:([],[])=_:=Option.some.inj h
  subst this
  cases hl
 | [],_::_,_,_,_,h=>by cases h
 | _::_,[],_,_,_,h=>by cases h
 | p::ps,x::xs,ts,r,h4,h=>by
  unfold argsP at h
  split at h
  ·rename_i a m b n ha hb
   injection h with h
   subst h
   intro l hl
   rcases List.mem_append.1 hl with hl | hl
   ·cases p with
    | v ag lt=>
     have ha':argP st (.v ag lt) (argN P ts (ev x))=some (a,m):=ha
     have key:∀ q,argP st (.v ag lt) q=some (a,m) -> ∃ ag',q=.w ag' a:=fun q hq=>by
      cases q with
      | w ag' ls=>
       have hq':(match bEq ag ag'&&Nat.beq ls.length lt.length with | true=>some (ls,[]) | false=>none)=some (a,m):=hq
       split at hq'
       ·cases hq';exact ⟨ag',rfl⟩
       ·cases hq'
      | _=>cases hq
     obtain ⟨ag',e⟩:=key _ ha'
     cases ts with
     | nil=>
      have e':ev x=.w ag' a:=e
      exact toks_agree h0 (fun t ht=>h4 x (by simp) t (.inl (by rw [e'];exact ht))) l hl
     | cons t ts=>exact normP_toks h0 (fun t ht=>h4 x (by simp) t (.inl ht)) e l hl
    | m lt=>
     have key:∀ q,argP st (.m lt) q=some (a,m) -> ∃ k off σ,q=.loc k off /\ st.L k=some (σ,a):=fun q hq=>by
      cases q with
      | loc k off=>
       have hq':(match st.L k with | some (_,ls)=>(match Nat.beq off 0&&Nat.beq ls.length lt.length with | true=>some (ls,[(k,ls.length)]) | false=>none) | none=>none)=some (a,m):=hq
       split at hq'
       ·split at hq'
        ·cases hq';exact ⟨k,off,_,rfl,‹_›⟩
        ·cases hq'
       ·cases hq'
      | _=>cases hq
     obtain ⟨k,off,σ,e,hL⟩:=key _ ha
     have e':ev x=.loc k off:=by
      cases ts with
      | nil=>exact e
      | cons t ts=>
       have e2:norm P t (ev x)=.loc k off:=e
       rcases norm_or P t (ev x) with e3 | ⟨ag,l,e3⟩
       ·rw [e3] at e2;exact e2
       ·rw [e3] at e2;cases e2
     refine toks_agree h0 (fun t ht=>h4 x (by simp) t (.inr ?_)) l hl
     rw [e']
     show t∈(match st.L k with | some (_,ls)=>toksLs ls | none=>[])
     rw [hL]
     exact ht
   ·exact argsP_toks h0 ps xs ts.tail _ (fun y hy=>h4 y (by simp [hy])) hb l hl
  ·cases h
theorem callP_congr {s:Sig} {f:s.Fn} {dst:Option Nat} {args:List Operand} {ats:List TypeId} {st X:PSt} {ev ev':Operand->PV} (h1:∀ y∈args,ev' y=ev y) (h2:∀ y∈args,∀ k∈keyP (ev y),X.L k=st.L k) (h4:∀ y∈args,∀ t,t∈toksP (ev y) \/ t∈lentToks st.L (ev y)->X.O t=st.O t)
  (h3:∀ d,dst=some d->hasN X.fr d=hasN st.fr d) (h0:X.O .zero=st.O .zero) (C:Upd->Option R):callP E s f dst args ats X ev' C=callP E s f dst args ats st ev C:=by
 have e3:newDst dst X.fr=newDst dst st.fr:=by
  cases dst with
  | none=>rfl
  | some d=>exact h3 d rfl
 unfold callP
 rw [argsP_congr _ _ _ h1 h2,e3]
 split
 ·rename_i ls ms ha
  rw [takeAll_congr _ _ (argsP_toks h0 _ _ _ _ h4 ha)]
 ·rfl
theorem rowC_congr {dst:Option Nat} {fr fr':List Nat} (h3:∀ d,dst=some d->hasN fr' d=hasN fr d) (C:Upd->Option R):rowC E dst fr' C=rowC E dst fr C:=by
 funext u
 unfold rowC
 cases dst with
 | none=>rfl
 | some d=>simp only [h3 d rfl]
theorem rowM_congr {dst:Option Nat} {fr fr':List Nat} {tt:Bool} (h3:∀ d,dst=some d->hasN fr' d=hasN fr d) (C:Upd->Option R):rowM E dst fr' tt C=rowM E dst fr tt C:=by
 funext u
 unfold rowM
 cases dst with
 | none=>rfl
 | some d=>simp only [h3 d rfl]
theorem callL_congr {s:Sig} {f:s.Fn} {dst:Option Nat} {args:List Operand} {ats:List TypeId} {st X:PSt} {ev ev':Operand->PV} (h1:∀ y∈args,ev' y=ev y) (h2:∀ y∈args,∀ k∈keyP (ev y),X.L k=st.L k) (h4:∀ y∈args,∀ t,t∈toksP (ev y) \/ t∈lentToks st.L (ev y)->X.O t=st.O t)
  (h3:∀ d,dst=some d->hasN X.fr d=hasN st.fr d) (h0:X.O .zero=st.O .zero) (C:Upd->Option R):callL E s f dst args ats X ev' C=callL E s f dst args ats st ev C:=by
 unfold callL
 rw [rowKeys_congr h1,rowC_congr h3]
 split
 ·exact callP_congr h1 h2 h4 h3 h0 _
 ·rename_i k K _
  have e0:(args.all fun x=>rowOk X.L (ev' x))=args.all fun x=>rowOk st.L (ev x):=by
   rw [Bool.eq_iff_iff,List.all_eq_true,List.all_eq_true]
   exact ⟨fun h y hy=>by have:=h y hy;rw [h1 y hy,rowOk_congr (h2 y hy)] at this;exact this,fun h y hy=>by rw [h1 y hy,rowOk_congr (h2 y hy)];exact h y hy⟩
  rw [e0]
  congr 1
  refine callP_congr (X:=lendSt (k::K) (tmpsOf args) X) (st:=lendSt (k::K) (tmpsOf args) st) (fun y hy=>?_) (fun y hy j hj=>?_) (fun y hy t ht=>?_) h3 h0 _
  ·show lendX (k::K) (tmpsOf args) X.L y (ev' y)=lendX (k::K) (tmpsOf args) st.L y (ev y)
   rw [h1 y hy]
   exact lendX_congr (h2 y hy)
  ·show (match hasN (k::K) j with | true=>(match X.L j with | some _=>some (0,[]) | none=>none) | false=>X.L j)=match hasN (k::K) j with | true=>(match st.L j with | some _=>some (0,[]) | none=>none) | false=>st.L j
   have hj:j∈keyP (lendX (k::K) (tmpsOf args) st.L y (ev y)):=hj
   have j1:j∈keyP (ev y):=by
    rcases lendX_cases (k::K) (tmpsOf args) st.L y (ev y) with e | ⟨b,e⟩
    ·rw [e] at hj;exact hj
    ·rw [e] at hj;exact (keys_lendPV hj).1
   rw [h2 y hy j j1]
  ·refine h4 y hy t ?_
   have ht:t∈toksP (lendX (k::K) (tmpsOf args) st.L y (ev y)) \/ t∈lentToks (lendSt (k::K) (tmpsOf args) st).L (lendX (k::K) (tmpsOf args) st.L y (ev y)):=ht
   have key:∀ p:PV,t∈lentToks (lendSt (k::K) (tmpsOf args) st).L p->t∈lentToks st.L p:=fun p ht=>by
    cases p with
    | loc j f=>
     have ht:t∈(match (match hasN (k::K) j with | true=>(match st.L j with | some _=>some ((0:Nat),([]:List Leaf)) | none=>none) | false=>st.L j) with | some (_,ls)=>toksLs ls | none=>[]):=ht
     cases hj:hasN (k::K) j with
     | true=>
      rw [hj] at ht
      cases hs:st.L j with
      | none=>rw [hs] at ht;cases ht
      | some q=>rw [hs] at ht;cases ht
     | false=>rw [hj] at ht;exact ht
    | _=>cases ht
   rcases lendX_cases (k::K) (tmpsOf args) st.L y (ev y) with e | ⟨b,e⟩
   ·rw [e] at ht
    rcases ht with ht | ht
    ·exact .inl ht
    ·exact .inr (key _ ht)
   ·rw [e] at ht
    rcases ht with ht | ht
    ·exact .inl (toks_lendPV ht)
    ·right
     rcases lendPV_cases b (k::K) st.L (ev y) with e | ⟨e,e2⟩ | ⟨k',n,_,σ,m,q,l,_,_,_,_,e⟩
     ·rw [e] at ht;cases ht
     ·rw [e] at ht;exact key _ ht
     ·rw [e] at ht;cases ht
theorem extP_congr {fn:Func} {args:List Operand} {ev ev':Operand->PV} (h1:∀ y∈args,ev' y=ev y) (C:Upd->Option R):extP fn (args.map ev') C=extP fn (args.map ev) C:=by
 rw [List.map_congr_left h1]
theorem ownNow_congr {O O':Tok->Bool} (h0:O' .zero=O .zero) {p:PV} (h:∀ t∈toksP p,O' t=O t):ownNow O' p=ownNow O p:=by
 unfold ownNow
 split
 ·rename_i k E e l
  have:O' k=O k:=toks_agree h0 (ls:=[.own k E e l]) h (.own k E e l) (by simp)
  rw [this]
 ·rfl
theorem pvU_congr {o:Oper} {st X:PSt} {ev ev':Operand->PV} (h:Sees o st X ev ev') (C:Upd->Option R):pvU E o X ev' C=pvU E o st ev C:=by
 obtain ⟨dst',op,type,pos,after,guard⟩:=o
 obtain ⟨h1,h2,h3,h4,h5⟩:=h
 cases op with
 | move x | assign x | nilCheck x | fieldAddr s x f | field s x f | extract x i | unOp op ty x=>
  have e1:=h1 x (by simp [Op.operands])
  simp only [pvU,e1]
 | convert src dstT x=>
  have e1:=h1 x (by simp [Op.operands])
  have e2:=ownNow_congr h5 (p:=ev x) fun t ht=>h4 rfl x (by simp [Op.operands]) t (.inl ht)
  have e3:=h2 x (by simp [Op.operands])
  have e4:∀ d,dst'=some d->hasN X.fr d=hasN st.fr d:=h3
  simp only [pvU,e1]
  generalize ev x=p at e2 e3 ⊢
  split
  ·rfl
  ·rfl
  ·split
   ·rw [e4 _ rfl]
   ·rfl
  ·simp only [e2]
  ·rw [e3 _ (by simp [keyP])]
  ·rfl
  ·rfl
  ·rfl
  ·rfl
 | index t x i | binOp op ty x i uy=>
  have e1:=h1 x (by simp [Op.operands])
  have e2:=h1 i (by simp [Op.operands])
  simp only [pvU,e1,e2]
 | makeSlice t x i=>
  have e1:=h1 x (by simp [Op.operands])
  have e2:=h1 i (by simp [Op.operands])
  simp only [rowM_congr h3,pvU,e1,e2]
 | alloc t=>
  simp only [pvU]
  split
  ·rw [h3 _ rfl]
  ·rfl
 | box t x=>
  have e1:=h1 x (by simp [Op.operands])
  simp only [pvU,e1]
  split
  ·rw [h3 _ rfl]
  ·rfl
 | load t x=>
  have e1:=h1 x (by simp [Op.operands])
  have e2:=h2 x (by simp [Op.operands])
  simp only [pvU,e1]
  split
  ·split
   ·rename_i k off he
    rw [e2 k (by rw [he];simp [keyP])]
   ·rename_i k off e j s he
    rw [e2 k (by rw [he];simp [keyP])]
   ·rfl
   ·rfl
  ·rfl
 | store t x y=>
  have e1:=h1 x (by simp [Op.operands])
  have e3:=h1 y (by simp [Op.operands])
  have e2:=h2 x (by simp [Op.operands])
  simp only [pvU,e1,e3]
  split
  ·rename_i k off _ _ _ he _ _
   rw [e2 k (by rw [he];simp [keyP])]
  ·rename_i k off e j s _ _ _ he _ _
   rw [e2 k (by rw [he];simp [keyP])]
  ·rfl
 | indexAddr t x i=>
  have e1:=h1 x (by simp [Op.operands])
  have e3:=h1 i (by simp [Op.operands])
  have e2:=h2 x (by simp [Op.operands])
  simp only [pvU,e1,e3]
  split
  ·rename_i e k n tt j _ he _
   rw [e2 k (by rw [he];simp [keyP])]
  ·rfl
  ·rename_i n e k off j _ he _
   rw [e2 k (by rw [he];simp [keyP])]
  ·rfl
  ·rfl
 | slice t x lo hi mx=>
  have e1:=h1 x (by simp [Op.operands])
  have e2:∀ y∈lo.toList,ev' y=ev y:=fun y hy=>h1 y (by simp [Op.operands] at hy ⊢;simp [hy])
  have e3:∀ y∈hi.toList,ev' y=ev y:=fun y hy=>h1 y (by simp [Op.operands] at hy ⊢;simp [hy])
  have e4:∀ y∈mx.toList,ev' y=ev y:=fun y hy=>h1 y (by simp [Op.operands] at hy ⊢;simp [hy])
  have e5:hi.bind (fun y=>intP (ev' y))=hi.bind (fun y=>intP (ev y)):=by
   cases hi with
   | none=>rfl
   | some y=>simp only [Option.bind_some,e3 y (by simp)]
  simp only [pvU,e1,boundP_congr e2,boundP_congr e3,e5]
  split
  ·rfl
  ·rfl
  ·rw [e4 _ (by simp)]
  ·rfl
 | build t parts=>
  have e1:∀ y∈parts.toList.map (·.2),ev' y=ev y:=fun y hy=>h1 y (by simpa [Op.operands] using hy)
  simp only [pvU,buildLs_congr _ _ e1,partsD_congr _ _ e1]
 | buildSlice t len parts=>
  have e1:∀ y∈parts.toList.map (·.2),ev' y=ev y:=fun y hy=>h1 y (by simpa [Op.operands] using hy)
  simp only [pvU,partsD_congr _ _ e1]
 | call c=>
  obtain ⟨callee,args,argTypes⟩:=c
  have e1:∀ y∈args.toList,ev' y=ev y:=fun y hy=>h1 y (by cases callee <;> simp_all [Op.operands,Call.operands])
  have e2:∀ y∈args.toList,∀ k∈keyP (ev y),X.L k=st.L k:=fun y hy=>h2 y (by cases callee <;> simp_all [Op.operands,Call.operands])
  cases callee with
  | builtin b=>
   simp only [pvU]
   exact bltP_congr e1 e2 (fun hb y hy=>h4 (by subst hb;rfl) y (by simp_all [Op.operands,Call.operands])) h5 C
  | value f=>
   cases f with
   | func f=>
    simp only [pvU]
    split
    ·split
     ·exact callL_congr e1 e2 (fun y hy=>h4 rfl y (by simp_all [Op.operands,Call.operands])) h3 h5 C
     ·rfl
    ·exact extP_congr e1 C
    ·rfl
   | _=>rfl
  | _=>rfl
 | _=>rfl
end
section
variable {E : Env} {R : Type} {r : R} {ops : Array Oper} {o : Oper}
theorem stepU_nat {kn:List (Nat×Bool)} {st:PSt} {C:Rec->PSt->Option R} (hv:stepU E o kn st C=some r):∃ rc s,C rc s=some r /\ ∀ {R':Type} (C':Rec->PSt->Option R'),stepU E o kn st C'=C' rc s:=by
 unfold stepU at hv ⊢
 split at hv
 case h_2=>cases hv
 split at hv
 ·split at hv
  ·exact ⟨_,_,hv,fun {_} C'=>rfl⟩
  ·cases hv
 ·obtain ⟨u,h1,h2⟩:=pvU_nat hv
  split at h1
  ·rename_i hok
   refine ⟨_,_,h1,fun {_} C'=>?_⟩
   rw [h2,hok]
  ·cases h1
theorem skipU_nat {kn:List (Nat×Bool)} {st:PSt} {C:Rec->PSt->Option R} (hv:skipU o kn st C=some r):∃ rc s,C rc s=some r /\ ∀ {R':Type} (C':Rec->PSt->Option R'),skipU o kn st C'=C' rc s:=by
 unfold skipU at hv ⊢
 split at hv
 ·exact ⟨_,_,hv,fun {_} C'=>rfl⟩
 ·cases hv
theorem wayU_nat {want b:Bool} {kn:List (Nat×Bool)} {st:PSt} {C:Rec->PSt->Option R} (hv:wayU E o want b kn st C=some r):∃ rc s,C rc s=some r /\ ∀ {R':Type} (C':Rec->PSt->Option R'),wayU E o want b kn st C'=C' rc s:=by
 unfold wayU at hv ⊢
 split at hv
 ·exact stepU_nat hv
 ·exact skipU_nat hv
theorem guardU_nat {t:Nat} {want:Bool}:∀ {n:Nat} {kn:List (Nat×Bool)} {st:PSt} {C:Rec->PSt->Option R},guardU E o t want n kn st C=some r -> ∃ rc s,C rc s=some r /\ ∀ {R':Type} (C':Rec->PSt->Option R'),guardU E o t want n kn st C'=C' rc s
 | 0,_,_,_,hv=>by cases hv
 | n+1,kn,st,C,hv=>by
  unfold guardU at hv ⊢
  split at hv
  ·rename_i b hb
   split at hv
   ·exact wayU_nat hv
   ·split at hv
    ·split at hv
     ·exact ⟨_,_,hv,fun {_} C'=>rfl⟩
     ·cases hv
    ·cases b with
     | true=>exact wayU_nat hv
     | false=>exact wayU_nat hv
  ·exact skipU_nat hv
  ·split at hv
   ·split at hv
    ·rename_i b1 _ _
     cases b1 with
     | true=>exact guardU_nat (n:=n) hv
     | false=>exact guardU_nat (n:=n) hv
    ·cases hv
   ·cases hv
  ·cases hv
theorem pvStep_nat {st:PSt} {C:Rec->PSt->Option R} (hv:pvStep E ops o st C=some r):∃ rc s,C rc s=some r /\ ∀ {R':Type} (C':Rec->PSt->Option R'),pvStep E ops o st C'=C' rc s:=by
 unfold pvStep at hv ⊢
 split at hv
 ·exact stepU_nat hv
 ·split at hv
  ·cases hv
  ·exact guardU_nat hv
def appR (d:Option Nat) (rc:Rec) (X:PSt):PSt:=⟨putP X.φ d rc.val,putL X.L rc.loc,putO X.O rc.born rc.gone,X.kn,X.sp,outN d X.fr⟩
def Like (a b:PSt):Prop:=a.φ=b.φ /\ a.L=b.L /\ a.O=b.O /\ ∀ x,hasN a.fr x=hasN b.fr x
inductive KnOK (φ:Nat->PV):List (Nat×Bool)->Prop
 | nil:KnOK φ []
 | cons {t b kn}:KnOK φ kn->(φ t=.w false [.d .bool b] \/ ∃ t' w',φ t=.spec t' w' false [.d .bool b] /\ knows kn t'=some w')->KnOK φ ((t,b)::kn)
theorem knows_ne {kn:List (Nat×Bool)} {t x:Nat} {b:Bool} (h:knows ((t,b)::kn) x=none):t≠x /\ knows kn x=none:=by
 unfold knows at h
 split at h
 ·cases h
 ·rename_i he
  exact ⟨fun e=>by subst e;simp at he,h⟩
theorem KnOK.put {φ:Nat->PV} {kn:List (Nat×Bool)} {d:Option Nat} {p:PV} (h:KnOK φ kn) (hd:∀ x,d=some x->knows kn x=none):KnOK (putP φ d p) kn:=by
 induction h with
 | nil=>exact .nil
 | @cons t b kn h0 hj ih=>
  have hne:d≠some t:=fun e=>(knows_ne (hd t e)).1 rfl
  refine .cons (ih fun x hx=>(knows_ne (hd x hx)).2) ?_
  rw [putP_ne hne]
  exact hj
structure RecOK (d:Option Nat) (g:Option Nat) (kn:List (Nat×Bool)) (st:PSt) (rc:Rec) (s:PSt):Prop where
 like:Like s (appR d rc st)
 free:∀ x,d=some x->hasN st.sp x=false /\ knows kn x=none
 kn:KnOK st.φ kn->KnOK s.φ s.kn
 sp:∀ t,hasN st.sp t=true->hasN s.sp t=true
 spec:∀ t want ag ls,rc.val=.spec t want ag ls->g=some t /\ hasN s.sp t=true
 born:∀ t∈rc.born,∃ x j,t=.op x j /\ d=some x /\ hasN st.fr x=true
 gone:∀ t∈rc.gone,t≠.zero
 ment:∀ x∈outN d st.fr,mentP x rc.val=false /\ ∀ p∈rc.loc,mentLs x p.2=false
theorem freeD_free {φ:Nat->PV} {L:Nat->Option (Nat×List Leaf)} {O:Tok->Bool} {kn:List (Nat×Bool)} {sp fr:List Nat} {d:Option Nat} (h:freeD ⟨φ,L,O,kn,sp,fr⟩ d=true):∀ x,d=some x->hasN sp x=false /\ knows kn x=none:=fun x hx=>by
 subst hx
 simp only [freeD,Bool.and_eq_true,Bool.not_eq_true'] at h
 refine ⟨h.1,?_⟩
 have h2:=h.2
 split at h2
 ·cases h2
 ·assumption
theorem recOK_v {d g:Option Nat} {kn:List (Nat×Bool)} {st:PSt} {p:PV} (hf:∀ x,d=some x->hasN st.sp x=false /\ knows kn x=none) (hp:∀ x,mentP x p=false) (hs:∀ t want ag ls,p≠.spec t want ag ls):RecOK d g kn st (Rec.v p) ⟨putP st.φ d p,st.L,st.O,kn,st.sp,outN d st.fr⟩:=
 ⟨⟨rfl,rfl,putO_nil.symm,fun _=>rfl⟩,hf,fun h=>h.put fun x hx=>(hf x hx).2,fun t h=>h,fun t want ag ls e=>(hs _ _ _ _ e).elim,fun t h=>(by cases h),fun t h=>(by cases h),fun x _=>⟨hp x,fun p h=>(by cases h)⟩⟩
theorem okUpd_parts {st:PSt} {d:Option Nat} {u:Upd} (h:okUpd st d u=true):(∀ t∈u.born,∃ x j,t=.op x j /\ d=some x /\ hasN st.fr x=true) /\ (∀ t∈u.gone,t≠.zero) /\ (∀ x∈outN d st.fr,mentP x u.val=false /\ ∀ p∈u.loc,mentLs x p.2=false):=by
 simp only [okUpd,Bool.and_eq_true,List.all_eq_true,Bool.not_eq_true'] at h
 obtain ⟨⟨⟨⟨h1,h2⟩,h3⟩,h4⟩,h5⟩:=h
 refine ⟨fun t ht=>?_,fun t ht e=>?_,h1⟩
 ·have:=h2 t ht
  split at this
  ·rename_i d' j x
   simp only [Bool.and_eq_true] at this
   exact ⟨d',j,rfl,by rw [Nat.eq_of_beq_eq_true this.1],by rw [Nat.eq_of_beq_eq_true this.1];exact this.2⟩
  ·cases this
 ·subst e
  have:=h3 .zero ht
  cases this
theorem pickP_bool {kn:List (Nat×Bool)} {φ:Nat->PV} {c a b:Operand} {p:PV} (h:pickP kn φ c a b=some p):∃ q,p=pbool q:=by
 unfold pickP at h
 repeat' split at h
 all_goals first
  | (cases h;done)
  | (injection h with h;exact ⟨_,h.symm⟩)
theorem binI_ns {op:BinOp} {k:IntKind} {x y:Int} {u:Upd} (h:binI op k x y (fun p=>some (Upd.v p))=some u):∀ t want ag ls,u.val≠.spec t want ag ls:=by
  unfold binI at h
  repeat' split at h
  all_goals first
    | (cases h;done)
    | (cases h;intro _ _ _ _ e;cases e;done)
    | (obtain ⟨h1,h2⟩:=chk_some h;cases h2;intro _ _ _ _ e;cases e;done)
    | (obtain ⟨y, h1, h2⟩ := bind_some2 h; repeat' split at h2
       all_goals first
        | (cases h2;done)
        | (cases h2;intro _ _ _ _ e;cases e;done))
theorem shI_ns {op:BinOp} {k:IntKind} {x y:Int} {u:Upd} (h:shI op k x y (fun p=>some (Upd.v p))=some u):∀ t want ag ls,u.val≠.spec t want ag ls:=by
  unfold shI at h
  repeat' split at h
  all_goals first
    | (cases h;done)
    | (cases h;intro _ _ _ _ e;cases e;done)
    | (obtain ⟨h1,h2⟩:=chk_some h;cases h2;intro _ _ _ _ e;cases e;done)
    | (obtain ⟨y, h1, h2⟩ := bind_some2 h; repeat' split at h2
       all_goals first
        | (cases h2;done)
        | (cases h2;intro _ _ _ _ e;cases e;done))
theorem binS_ns {op:BinOp} {x y:List Int} {u:Upd} (h:binS op x y (fun p=>some (Upd.v p))=some u):∀ t want ag ls,u.val≠.spec t want ag ls:=by
  unfold binS at h
  repeat' split at h
  all_goals first
    | (cases h;done)
    | (cases h;intro _ _ _ _ e;cases e;done)
    | (obtain ⟨h1,h2⟩:=chk_some h;cases h2;intro _ _ _ _ e;cases e;done)
    | (obtain ⟨y, h1, h2⟩ := bind_some2 h; repeat' split at h2
       all_goals first
        | (cases h2;done)
        | (cases h2;intro _ _ _ _ e;cases e;done))
theorem unP_ns {op:UnOp} {p q:PV} (h:unP op p=some q):∀ t want ag ls,q≠.spec t want ag ls:=by
  unfold unP at h
  repeat' split at h
  all_goals first
    | (cases h;done)
    | (cases h;intro _ _ _ _ e;cases e;done)
    | (obtain ⟨h1,h2⟩:=chk_some h;cases h2;intro _ _ _ _ e;cases e;done)
    | (obtain ⟨y, h1, h2⟩ := bind_some2 h; repeat' split at h2
       all_goals first
        | (cases h2;done)
        | (cases h2;intro _ _ _ _ e;cases e;done))
theorem lenP_ns {P:Program} {t:TypeId} {p q:PV} (h:lenP P t p=some q):∀ t want ag ls,q≠.spec t want ag ls:=by
  unfold lenP at h
  repeat' split at h
  all_goals first
    | (cases h;done)
    | (cases h;intro _ _ _ _ e;cases e;done)
    | (obtain ⟨h1,h2⟩:=chk_some h;cases h2;intro _ _ _ _ e;cases e;done)
    | (obtain ⟨y, h1, h2⟩ := bind_some2 h; repeat' split at h2
       all_goals first
        | (cases h2;done)
        | (cases h2;intro _ _ _ _ e;cases e;done))
theorem binF_ns {op:BinOp} {k:FloatKind} {x y:Nat} {u:Upd} (h:binF op k x y (fun p=>some (Upd.v p))=some u):∀ t want ag ls,u.val≠.spec t want ag ls:=by
 unfold binF at h
 repeat' split at h
 all_goals first
  | (cases h;done)
  | (cases h;intro _ _ _ _ e;cases e;done)
  | (obtain ⟨y,h1,h2⟩:=bind_some2 h;cases h2;intro _ _ _ _ e;cases e;done)
theorem binC_ns {op:BinOp} {k:FloatKind} {x y:Nat×Nat} {u:Upd} (h:binC op k x y (fun p=>some (Upd.v p))=some u):∀ t want ag ls,u.val≠.spec t want ag ls:=by
 unfold binC at h
 repeat' split at h
 all_goals first
  | (cases h;done)
  | (cases h;intro _ _ _ _ e;cases e;done)
  | (obtain ⟨y,h1,h2⟩:=bind_some2 h;obtain ⟨y',h3,h4⟩:=bind_some2 h2;cases h4;intro _ _ _ _ e;cases e;done)
theorem mmP_ns {f:Int->Int->Int} {p p' q:PV} (h:mmP f p p'=some q):∀ t want ag ls,q≠.spec t want ag ls:=by
  unfold mmP at h
  repeat' split at h
  all_goals first
    | (cases h;done)
    | (cases h;intro _ _ _ _ e;cases e;done)
    | (obtain ⟨h1,h2⟩:=chk_some h;cases h2;intro _ _ _ _ e;cases e;done)
    | (obtain ⟨y, h1, h2⟩ := bind_some2 h; repeat' split at h2
       all_goals first
        | (cases h2;done)
        | (cases h2;intro _ _ _ _ e;cases e;done))
theorem resP_ns {rs:List (Bool×List LT)} {ls:List Leaf}:∀ t want ag l,resP rs ls≠.spec t want ag l:=by
 intro t want ag l e
 unfold resP at e
 split at e <;> cases e
theorem appP_ns {P:Program} {o:Oper} {t u:TypeId} {st:PSt} {p q:PV} {R':Type} {C:Upd->Option R'} {r':R'} (hv:appP P o t u st p q C=some r'):∃ u',C u'=some r' /\ ∀ t want ag ls,u'.val≠.spec t want ag ls:=by
 unfold appP at hv
 repeat' split at hv
 all_goals first
  | (cases hv;done)
  | (obtain ⟨h1,h2⟩:=chk_some hv;exact ⟨_,h2,fun _ _ _ _ e=>by cases e⟩)
theorem appT_ns {P:Program} {o:Oper} {t u:TypeId} {p q:PV} {R':Type} {C:Upd->Option R'} {r':R'} (hv:appT P o t u p q C=some r'):∃ u',C u'=some r' /\ ∀ t want ag ls,u'.val≠.spec t want ag ls:=by
 unfold appT at hv
 repeat' split at hv
 all_goals first
  | (cases hv;done)
  | (obtain ⟨h1,h2⟩:=chk_some hv;exact ⟨_,h2,fun _ _ _ _ e=>by cases e⟩)
theorem lendC_ns {u0 u:Upd} (h:∀ t want ag ls,u0.val≠.spec t want ag ls) (hv:lendC some u0=some u):∀ t want ag ls,u.val≠.spec t want ag ls:=by
 unfold lendC at hv
 repeat' split at hv
 all_goals first
  | (cases hv;done)
  | (cases hv;exact h)
theorem appL_ns {P:Program} {o:Oper} {t u:TypeId} {st:PSt} {x y:Operand} {ev:Operand->PV} {u':Upd} (hv:appL P o t u st x y ev some=some u'):∀ t want ag ls,u'.val≠.spec t want ag ls:=by
 unfold appL at hv
 split at hv
 ·obtain ⟨u0,h1,h2⟩:=appP_ns hv
  cases h1
  exact h2
 ·obtain ⟨_,hv⟩:=chk_some hv
  split at hv
  ·split at hv
   ·obtain ⟨u0,h1,h2⟩:=appT_ns hv
    exact lendC_ns h2 h1
   ·cases hv
  ·obtain ⟨u0,h1,h2⟩:=appP_ns hv
   exact lendC_ns h2 h1
theorem callP_ns {s:Sig} {f:s.Fn} {dst:Option Nat} {args:List Operand} {ats:List TypeId} {st:PSt} {ev:Operand->PV} {R':Type} {C:Upd->Option R'} {r':R'} (hv:callP E s f dst args ats st ev C=some r'):∃ u,C u=some r' /\ ∀ t want ag ls,u.val≠.spec t want ag ls:=by
  unfold callP at hv
  repeat' split at hv
  all_goals first
    | (cases hv;done)
    | (obtain ⟨y, h1, h2⟩ := bind_some2 hv
       split at h2
       · exact ⟨_,h2,resP_ns⟩
       · cases h2)
theorem rowC_ns {dst:Option Nat} {fr:List Nat} {u0 u:Upd} (h:∀ t want ag ls,u0.val≠.spec t want ag ls) (hv:rowC E dst fr some u0=some u):∀ t want ag ls,u.val≠.spec t want ag ls:=by
 unfold rowC at hv
 repeat' split at hv
 all_goals first
  | (cases hv;done)
  | (cases hv;intro _ _ _ _ e;cases e;done)
  | (cases hv;exact h)
  | (obtain ⟨_,h2⟩:=chk_some hv;cases h2;intro _ _ _ _ e;cases e;done)
theorem rowM_ns {dst:Option Nat} {fr:List Nat} {tt:Bool} {u0 u:Upd} (h:∀ t want ag ls,u0.val≠.spec t want ag ls) (hv:rowM E dst fr tt some u0=some u):∀ t want ag ls,u.val≠.spec t want ag ls:=by
 unfold rowM at hv
 repeat' split at hv
 all_goals first
  | (cases hv;done)
  | (cases hv;intro _ _ _ _ e;cases e;done)
  | (cases hv;exact h)
  | (obtain ⟨_,h2⟩:=chk_some hv;cases h2;intro _ _ _ _ e;cases e;done)
theorem callL_ns {s:Sig} {f:s.Fn} {dst:Option Nat} {args:List Operand} {ats:List TypeId} {st:PSt} {ev:Operand->PV} {u:Upd} (hv:callL E s f dst args ats st ev some=some u):∀ t want ag ls,u.val≠.spec t want ag ls:=by
 unfold callL at hv
 split at hv
 ·obtain ⟨u0,h1,h2⟩:=callP_ns hv
  exact rowC_ns h2 h1
 ·obtain ⟨_,hv⟩:=chk_some hv
  obtain ⟨u0,h1,h2⟩:=callP_ns hv
  unfold lendC at h1
  repeat' split at h1
  all_goals first
   | (cases h1;done)
   | exact rowC_ns h2 h1
theorem pvU_ns {st:PSt} {ev:Operand->PV} {u:Upd} (hv:pvU E o st ev some=some u):∀ t want ag ls,u.val≠.spec t want ag ls:=by
  obtain ⟨dst,op,type,pos,after,guard⟩:=o
  cases op with
  | move x | assign x=>
    simp only [pvU] at hv
    split at hv
    · cases hv
    · cases hv
    · rename_i h1 h2
      injection hv with hv
      subst hv
      intro t want ag ls e
      exact h2 t want ag ls e
  | unOp op ty x=>
    simp only [pvU] at hv
    split at hv
    · rename_i p hp
      injection hv with hv
      subst hv
      exact unP_ns hp
    · cases hv
  | binOp op ty x y uy=>
    simp only [pvU] at hv
    split at hv
    · repeat' split at hv
      all_goals first
        | (cases hv;done)
        | (cases hv;intro _ _ _ _ e;cases e;done)
        | (obtain ⟨h1,h2⟩:=chk_some hv;cases h2;intro _ _ _ _ e;cases e;done)
        | (obtain ⟨y, h1, h2⟩ := bind_some2 hv; repeat' split at h2
           all_goals first
            | (cases h2;done)
            | (cases h2;intro _ _ _ _ e;cases e;done))
    · repeat' split at hv
      all_goals first
        | (cases hv;done)
        | (cases hv;intro _ _ _ _ e;cases e;done)
        | (obtain ⟨h1,h2⟩:=chk_some hv;cases h2;intro _ _ _ _ e;cases e;done)
        | (obtain ⟨y, h1, h2⟩ := bind_some2 hv; repeat' split at h2
           all_goals first
            | (cases h2;done)
            | (cases h2;intro _ _ _ _ e;cases e;done))
    · repeat' split at hv
      all_goals first
        | (cases hv;done)
        | (cases hv;intro _ _ _ _ e;cases e;done)
        | (obtain ⟨h1,h2⟩:=chk_some hv;cases h2;intro _ _ _ _ e;cases e;done)
        | (obtain ⟨y, h1, h2⟩ := bind_some2 hv; repeat' split at h2
           all_goals first
            | (cases h2;done)
            | (cases h2;intro _ _ _ _ e;cases e;done))
    · unfold binP at hv
      split at hv
      · split at hv
        · exact shI_ns hv
        · exact shI_ns hv
        · split at hv
          · exact binI_ns hv
          · cases hv
      · exact binS_ns hv
      · split at hv
        · exact binF_ns hv
        · cases hv
      · split at hv
        · exact binC_ns hv
        · cases hv
      · cases hv
  | call c=>
    obtain ⟨callee,args,argTypes⟩:=c
    cases callee with
    | builtin b=>
      simp only [pvU] at hv
      unfold bltP at hv
      split at hv
      · repeat' split at hv
        all_goals first
          | (cases hv;done)
          | (cases hv;exact lenP_ns ‹_›)
          | (cases hv;intro _ _ _ _ e;cases e;done)
      · split at hv
        · repeat' split at hv
          all_goals first
            | (cases hv;done)
            | (cases hv;exact mmP_ns ‹_›)
        · repeat' split at hv
          all_goals first
            | (cases hv;done)
            | (cases hv;exact mmP_ns ‹_›)
        · exact appL_ns hv
        · repeat' split at hv
          all_goals first
            | (cases hv;done)
            | (cases hv;intro _ _ _ _ e;cases e;done)
        · cases hv
      · cases hv
    | value f=>
      cases f with
      | func f=>
        simp only [pvU] at hv
        split at hv
        · split at hv
          · exact callL_ns hv
          · cases hv
        · unfold extP at hv
          split at hv
          · unfold addP at hv
            obtain ⟨h1,h2⟩:=chk_some hv
            cases h2
            intro _ _ _ _ e;cases e
          · cases hv
        · cases hv
      | _=>cases hv
    | _=>cases hv
  | makeSlice t n c=>
    simp only [pvU] at hv
    repeat' split at hv
    all_goals first
      | (cases hv;done)
      | (obtain ⟨_, h2⟩ := chk_some hv
         exact rowM_ns (fun _ _ _ _ e=>by cases e) h2)
  | _=>
    simp only [pvU] at hv
    repeat' split at hv
    all_goals first
      | (cases hv;done)
      | (cases hv;intro _ _ _ _ e;cases e;done)
      | (obtain ⟨h1,h2⟩:=chk_some hv;cases h2;intro _ _ _ _ e;cases e;done)
      | (obtain ⟨k',q1,q2,q3,q4⟩:=splitIx_some hv;cases q4;intro _ _ _ _ e;cases e;done)
      | (obtain ⟨y, h1, h2⟩ := bind_some2 hv; repeat' split at h2
         all_goals first
          | (cases h2;done)
          | (cases h2;intro _ _ _ _ e;cases e;done))
theorem stepU_ok {g:Option Nat} {kn:List (Nat×Bool)} {st:PSt} {rc:Rec} {s:PSt} (hv:stepU E o kn st (fun rc s=>some (rc,s))=some (rc,s)):RecOK o.dst g kn st rc s:=by
 unfold stepU at hv
 split at hv
 case h_2=>cases hv
 rename_i hf
 have hfr:=freeD_free hf
 split at hv
 ·split at hv
  ·rename_i p hp
   injection hv with hv
   obtain ⟨rfl,rfl⟩:=Prod.mk.inj hv
   obtain ⟨q,rfl⟩:=pickP_bool hp
   exact recOK_v hfr (fun _=>rfl) (fun _ _ _ _ e=>by cases e)
  ·cases hv
 ·obtain ⟨u,h1,h2⟩:=pvU_nat hv
  split at h1
  ·rename_i hok
   injection h1 with h1
   obtain ⟨rfl,rfl⟩:=Prod.mk.inj h1
   obtain ⟨o1,o2,o3⟩:=okUpd_parts hok
   exact ⟨⟨rfl,rfl,rfl,fun _=>rfl⟩,hfr,fun h=>h.put fun x hx=>(hfr x hx).2,fun t h=>h,fun t want ag ls e=>(pvU_ns (h2 some) t want ag ls e).elim,o1,o2,o3⟩
  ·cases h1
theorem skipU_ok {g:Option Nat} {kn:List (Nat×Bool)} {st:PSt} {rc:Rec} {s:PSt} (hv:skipU o kn st (fun rc s=>some (rc,s))=some (rc,s)):RecOK o.dst g kn st rc s:=by
 unfold skipU at hv
 split at hv
 case h_2=>cases hv
 rename_i hf
 injection hv with hv
 obtain ⟨rfl,rfl⟩:=Prod.mk.inj hv
 exact recOK_v (freeD_free hf) (fun _=>rfl) (fun _ _ _ _ e=>by cases e)
theorem wayU_ok {g:Option Nat} {want b:Bool} {kn:List (Nat×Bool)} {st:PSt} {rc:Rec} {s:PSt} (hv:wayU E o want b kn st (fun rc s=>some (rc,s))=some (rc,s)):RecOK o.dst g kn st rc s:=by
 unfold wayU at hv
 split at hv
 ·exact stepU_ok hv
 ·exact skipU_ok hv
theorem RecOK.less {d g:Option Nat} {t:Nat} {b:Bool} {kn:List (Nat×Bool)} {st:PSt} {rc:Rec} {s:PSt} (h:RecOK d g ((t,b)::kn) st rc s) (hj:st.φ t=.w false [.d .bool b] \/ ∃ t' w',st.φ t=.spec t' w' false [.d .bool b] /\ knows kn t'=some w'):RecOK d g kn st rc s:=
 ⟨h.like,fun x hx=>⟨(h.free x hx).1,(knows_ne (h.free x hx).2).2⟩,fun hk=>h.kn (.cons hk hj),h.sp,h.spec,h.born,h.gone,h.ment⟩
theorem evK_bool {kn:List (Nat×Bool)} {φ:Nat->PV} {t:Nat} {b:Bool} (h:evK kn φ (.tmp t)=.w false [.d .bool b]) (hk:knows kn t=none):φ t=.w false [.d .bool b] \/ ∃ t' w',φ t=.spec t' w' false [.d .bool b] /\ knows kn t'=some w':=by
 unfold evK at h
 have hev:evS φ (.tmp t)=φ t:=rfl
 rw [hev] at h
 split at h
 ·rename_i j want ag ls hs
  split at h
  ·rename_i b' hb
   split at h
   ·rename_i he
    have h:=knB_none h hk
    cases h
    exact .inr ⟨j,want,hs,by rw [hb,bEq_iff.1 he]⟩
   ·cases h
  ·cases h
 ·exact .inl (knB_none h hk)
theorem guardU_ok {t:Nat} {want:Bool}:∀ {n:Nat} {kn:List (Nat×Bool)} {st:PSt} {rc:Rec} {s:PSt},guardU E o t want n kn st (fun rc s=>some (rc,s))=some (rc,s)->RecOK o.dst (some t) kn st rc s
 | 0,_,_,_,_,hv=>by cases hv
 | n+1,kn,st,rc,s,hv=>by
  unfold guardU at hv
  split at hv
  ·rename_i b hb
   split at hv
   ·exact wayU_ok hv
   ·rename_i hk
    split at hv
    ·rename_i ag ls hs
     split at hv
     ·rename_i hfk
      simp only [Bool.and_eq_true] at hfk
      obtain ⟨o1,o2,o3⟩:=okUpd_parts hfk.2
      have hfr:=freeD_free hfk.1
      injection hv with hv
      obtain ⟨rfl,rfl⟩:=Prod.mk.inj hv
      refine ⟨⟨rfl,rfl,putO_nil.symm,fun _=>rfl⟩,fun x hx=>⟨Bool.eq_false_iff.2 fun e=>?_,(hfr x hx).2⟩,fun h=>h.put fun x hx=>(hfr x hx).2,fun t h=>hasN_iff.2 (List.mem_cons_of_mem _ (hasN_iff.1 h)),fun t' want' ag' ls' e=>?_,fun t h=>(by cases h),fun t h=>(by cases h),fun x hx=>⟨(o3 x hx).1,fun p h=>(by cases h)⟩⟩
      ·have:=(hfr x hx).1
       rw [hasN_iff.2 (List.mem_cons_of_mem _ (hasN_iff.1 e))] at this
       cases this
      ·have e':PV.spec t want ag ls=.spec t' want' ag' ls':=e
       cases e'
       exact ⟨rfl,hasN_iff.2 (by simp)⟩
     ·cases hv
    ·cases b with
     | true=>exact (wayU_ok (g:=some t) (kn:=(t,true)::kn) hv).less (evK_bool hb hk)
     | false=>exact (wayU_ok (g:=some t) (kn:=(t,false)::kn) hv).less (evK_bool hb hk)
  ·exact skipU_ok hv
  ·split at hv
   ·rename_i t1 _ _ _ _
    split at hv
    ·rename_i b1 hb1 hk1
     cases b1 with
     | true=>exact (guardU_ok (n:=n) (kn:=(t1,true)::kn) hv).less (evK_bool hb1 hk1)
     | false=>exact (guardU_ok (n:=n) (kn:=(t1,false)::kn) hv).less (evK_bool hb1 hk1)
    ·cases hv
   ·cases hv
  ·cases hv
def gslot (ops:Array Oper) (o:Oper):Option Nat:=match o.guard with
 | none=>none
 | some (j,_)=>(ops[j]?).bind (·.dst)
theorem pvStep_ok {st:PSt} {rc:Rec} {s:PSt} (hv:pvStep E ops o st (fun rc s=>some (rc,s))=some (rc,s)):RecOK o.dst (gslot ops o) st.kn st rc s:=by
 unfold pvStep at hv
 unfold gslot
 split at hv
 ·exact stepU_ok hv
 ·rename_i j want hg
  split at hv
  ·cases hv
  ·rename_i t ht
   simp only [hg,ht]
   exact guardU_ok hv
end
section
variable {E : Env} {R : Type} {r : R} {ops : Array Oper} {o : Oper} {A : Nat -> Prop}
structure Foot (d:Option Nat) (rc:Rec) (st X:PSt):Prop where
 L:∀ k,k∈rc.keysR \/ k∈rc.keysW->X.L k=st.L k
 O:∀ t∈rc.toksR,X.O t=st.O t
 zero:X.O .zero=st.O .zero
 fr:∀ x,d=some x->hasN X.fr x=hasN st.fr x
 free:∀ x,d=some x->hasN X.sp x=false
 ment:∀ x∈outN d X.fr,mentP x rc.val=false /\ ∀ p∈rc.loc,mentLs x p.2=false
structure Alike (A:Nat->Prop) (st X:PSt) (kn kn':List (Nat×Bool)):Prop where
 φ:∀ t,A t->X.φ t=st.φ t
 kn:∀ t,A t->knows kn' t=knows kn t
 cl:∀ t,A t -> ∀ j w ag ls,st.φ t=.spec j w ag ls->A j
theorem Alike.cons {st X:PSt} {kn kn':List (Nat×Bool)} (h:Alike A st X kn kn') (t:Nat) (b:Bool):Alike A st X ((t,b)::kn) ((t,b)::kn'):=
 ⟨h.φ,fun x hx=>by
  unfold knows
  split
  ·rfl
  ·exact h.kn x hx,h.cl⟩
theorem Alike.ev {st X:PSt} {kn kn':List (Nat×Bool)} (h:Alike A st X kn kn') {x:Operand} (hx:∀ t,x=.tmp t->A t):evK kn' X.φ x=evK kn st.φ x:=by
 unfold evK
 have e:evS X.φ x=evS st.φ x:=by
  cases x with
  | tmp t=>exact h.φ t (hx t rfl)
  | _=>rfl
 rw [e]
 have hb:∀ p,knB kn' x p=knB kn x p:=fun p=>knB_congr fun t e=>h.kn t (hx t e)
 split
 ·rename_i j want ag ls hs
  have hj:A j:=by
   cases x with
   | tmp t=>exact h.cl t (hx t rfl) j want ag ls hs
   | const c=>
    exfalso
    have hs':constPV c=.spec j want ag ls:=hs
    unfold constPV at hs'
    repeat' split at hs'
    all_goals cases hs'
   | _=>cases hs
  rw [h.kn j hj,hb]
 ·exact hb _
theorem putL_congr {L L':Nat->Option (Nat×List Leaf)} {k:Nat} (h:L' k=L k):∀ (l:List (Nat×List Leaf)),putL L' l k=putL L l k
 | []=>h
 | (j,ls)::r=>by
  unfold putL
  split
  ·rfl
  ·exact putL_congr h r
theorem okUpd_at {st X:PSt} {d:Option Nat} {u:Upd} (h:okUpd st d u=true) (h1:∀ k∈keyP u.val,X.L k=st.L k) (h2:∀ p∈u.loc,X.L p.1=st.L p.1) (h3:∀ x,d=some x->hasN X.fr x=hasN st.fr x) (h4:∀ x∈outN d X.fr,mentP x u.val=false /\ ∀ p∈u.loc,mentLs x p.2=false):okUpd X d u=true:=by
 simp only [okUpd,Bool.and_eq_true,List.all_eq_true,Bool.not_eq_true'] at h ⊢
 obtain ⟨⟨⟨⟨_,g2⟩,g3⟩,g4⟩,g5⟩:=h
 refine ⟨⟨⟨⟨h4,fun t ht=>?_⟩,g3⟩,fun k hk=>?_⟩,fun p hp=>?_⟩
 ·have:=g2 t ht
  split
  ·rename_i d' j x
   dsimp only at this
   rw [h3 _ rfl];exact this
  ·rename_i hn
   split at this
   ·exact (hn _ _ _ rfl rfl).elim
   ·cases this
 ·have:=g4 k hk
  rw [putL_congr (h1 k hk)];exact this
 ·have:=g5 p hp
  rw [h2 p hp]
  split
  ·rfl
  ·rename_i hn
   rw [hn] at this
   dsimp only at this
   cases d with
   | none=>cases this
   | some x=>dsimp only at this ⊢;rw [h3 x rfl];exact this
theorem freeD_at {φ:Nat->PV} {L:Nat->Option (Nat×List Leaf)} {O:Tok->Bool} {kn:List (Nat×Bool)} {sp fr:List Nat} {d:Option Nat} (h:∀ x,d=some x->hasN sp x=false /\ knows kn x=none):freeD ⟨φ,L,O,kn,sp,fr⟩ d=true:=by
 cases d with
 | none=>rfl
 | some x=>simp [freeD,(h x rfl).1,(h x rfl).2]
theorem flatMap_same {α β:Type} {f g:α->List β}:∀ (l:List α),(∀ x∈l,f x=g x)->l.flatMap f=l.flatMap g
 | [],_=>rfl
 | x::r,h=>by rw [List.flatMap_cons,List.flatMap_cons,h x (by simp),flatMap_same r fun y hy=>h y (by simp [hy])]
theorem recU_at {st X:PSt} {kn kn':List (Nat×Bool)} {u:Upd} (he:∀ x∈o.op.operands,evK kn' X.φ x=evK kn st.φ x) (hl:∀ x∈o.op.operands,∀ k∈keyP (evK kn st.φ x),X.L k=st.L k):recU o X kn' u=recU o st kn u:=by
 have e1:o.op.operands.toList.map (evK kn' X.φ)=o.op.operands.toList.map (evK kn st.φ):=List.map_congr_left fun x hx=>he x (by simpa using hx)
 have e2:(o.op.operands.toList.map (evK kn st.φ)).flatMap (lentToks X.L)=(o.op.operands.toList.map (evK kn st.φ)).flatMap (lentToks st.L):=by
  rw [List.flatMap_map,List.flatMap_map]
  refine flatMap_same _ fun x hx=>?_
  have hk:=hl x (by simpa using hx)
  generalize evK kn st.φ x=p at hk
  cases p with
  | loc k off=>simp only [lentToks,hk k (by simp [keyP])]
  | _=>rfl
 unfold recU
 dsimp only
 rw [e1,e2]
def SpIn (X:PSt) (g:Option Nat) (s:PSt):Prop:=∀ t,hasN s.sp t=true->hasN X.sp t=true \/ g=some t
theorem stepU_at {g:Option Nat} {st X:PSt} {kn kn':List (Nat×Bool)} {rc:Rec} {s:PSt} (hA:Alike A st X kn kn') (hops:∀ t,.tmp t∈o.op.operands->A t) (hk:∀ x,o.dst=some x->knows kn' x=none) (hF:Foot o.dst rc st X) (hv:stepU E o kn st (fun rc s=>some (rc,s))=some (rc,s)) :
  ∃ s',stepU E o kn' X (fun rc s=>some (rc,s))=some (rc,s') /\ Like s' (appR o.dst rc X) /\ SpIn X g s':=by
 have hev:∀ x∈o.op.operands,evK kn' X.φ x=evK kn st.φ x:=fun x hx=>hA.ev fun t e=>hops t (e ▸ hx)
 have hfd:=freeD_at (φ:=X.φ) (L:=X.L) (O:=X.O) (fr:=X.fr) fun x hx=>⟨hF.free x hx,hk x hx⟩
 unfold stepU at hv ⊢
 rw [hfd]
 split at hv
 case h_2=>cases hv
 dsimp only
 split at hv
 ·rename_i c a b hop
  split at hv
  ·rename_i p hp
   injection hv with hv
   obtain ⟨rfl,rfl⟩:=Prod.mk.inj hv
   have e:pickP kn' X.φ c a b=pickP kn st.φ c a b:=by
    have hc:=hev c (by simp [hop,Op.operands])
    unfold pickP
    split
    ·rename_i t
     rw [hc]
     have e1:=(hA.cons t true).ev (x:=a) fun t e=>hops t (by simp [hop,Op.operands,e])
     have e2:=(hA.cons t false).ev (x:=b) fun t e=>hops t (by simp [hop,Op.operands,e])
     rw [e1,e2]
    ·rfl
   rw [e,hp]
   exact ⟨_,rfl,⟨rfl,rfl,putO_nil.symm,fun _=>rfl⟩,fun t h=>.inl h⟩
  ·cases hv
 ·obtain ⟨u,h1,h2⟩:=pvU_nat hv
  split at h1
  ·rename_i hok
   injection h1 with h1
   obtain ⟨rfl,rfl⟩:=Prod.mk.inj h1
   have hlk:∀ x∈o.op.operands,∀ k∈keyP (evK kn st.φ x),X.L k=st.L k:=fun x hx k hk=>hF.L k (.inl (List.mem_append.2 (.inl (List.mem_flatMap.2 ⟨_,List.mem_map.2 ⟨x,by simpa using hx,rfl⟩,hk⟩))))
   have hs:Sees o ⟨st.φ,st.L,st.O,kn,st.sp,st.fr⟩ ⟨X.φ,X.L,X.O,kn',X.sp,X.fr⟩ (evK kn st.φ) (evK kn' X.φ):=by
    refine ⟨hev,hlk,hF.fr,fun hr x hx t ht=>hF.O t ?_,hF.zero⟩
    show t∈(recU o st kn u).toksR
    unfold recU
    rw [hr]
    have hm:evK kn st.φ x∈o.op.operands.toList.map (evK kn st.φ):=List.mem_map.2 ⟨x,by simpa using hx,rfl⟩
    rcases ht with ht | ht
    ·exact List.mem_append.2 (.inl (List.mem_flatMap.2 ⟨_,hm,ht⟩))
    ·exact List.mem_append.2 (.inr (List.mem_flatMap.2 ⟨_,hm,ht⟩))
   have hok':okUpd ⟨X.φ,X.L,X.O,kn',X.sp,X.fr⟩ o.dst u=true:=okUpd_at (X:=⟨X.φ,X.L,X.O,kn',X.sp,X.fr⟩) hok (fun k hk=>hF.L k (.inl (List.mem_append.2 (.inr hk)))) (fun p hp=>hF.L p.1 (.inr (List.mem_map.2 ⟨p,hp,rfl⟩))) hF.fr hF.ment
   rw [pvU_congr hs,h2,hok',recU_at hev hlk]
   exact ⟨_,rfl,⟨rfl,rfl,rfl,fun _=>rfl⟩,fun t h=>.inl h⟩
  ·cases h1
theorem skipU_at {g:Option Nat} {st X:PSt} {kn kn':List (Nat×Bool)} {rc:Rec} {s:PSt} (hk:∀ x,o.dst=some x->knows kn' x=none) (hF:∀ x,o.dst=some x->hasN X.sp x=false) (hv:skipU o kn st (fun rc s=>some (rc,s))=some (rc,s)) :
  ∃ s',skipU o kn' X (fun rc s=>some (rc,s))=some (rc,s') /\ Like s' (appR o.dst rc X) /\ SpIn X g s':=by
 have hfd:=freeD_at (φ:=X.φ) (L:=X.L) (O:=X.O) (fr:=X.fr) fun x hx=>⟨hF x hx,hk x hx⟩
 unfold skipU at hv ⊢
 rw [hfd]
 split at hv
 case h_2=>cases hv
 injection hv with hv
 obtain ⟨rfl,rfl⟩:=Prod.mk.inj hv
 exact ⟨_,rfl,⟨rfl,rfl,putO_nil.symm,fun _=>rfl⟩,fun t h=>.inl h⟩
theorem wayU_at {g:Option Nat} {want b:Bool} {st X:PSt} {kn kn':List (Nat×Bool)} {rc:Rec} {s:PSt} (hA:Alike A st X kn kn') (hops:∀ t,.tmp t∈o.op.operands->A t) (hk:∀ x,o.dst=some x->knows kn' x=none) (hF:Foot o.dst rc st X) (hv:wayU E o want b kn st (fun rc s=>some (rc,s))=some (rc,s)) :
  ∃ s',wayU E o want b kn' X (fun rc s=>some (rc,s))=some (rc,s') /\ Like s' (appR o.dst rc X) /\ SpIn X g s':=by
 unfold wayU at hv ⊢
 split at hv
 ·exact stepU_at hA hops hk hF hv
 ·exact skipU_at hk hF.free hv
theorem totalO_at {ev ev':Operand->PV} (h:∀ x∈o.op.operands,ev' x=ev x):totalO ev' o.op=totalO ev o.op:=by
 obtain ⟨dst,op,type,pos,after,guard⟩:=o
 cases op with
 | binOp op ty x y uy=>
  have e:=h x (by simp [Op.operands])
  simp only [totalO,e]
 | call c=>
  obtain ⟨callee,args,argTypes⟩:=c
  cases callee with
  | builtin b=>cases b <;> rfl
  | _=>rfl
 | _=>rfl
theorem pvU_total {st X:PSt} {ev ev':Operand->PV} (h:∀ x∈o.op.operands,ev' x=ev x) (ht:totalO ev o.op=true) (C:Upd->Option R):pvU E o X ev' C=pvU E o st ev C:=by
 obtain ⟨dst,op,type,pos,after,guard⟩:=o
 cases op with
 | move x | assign x | field s x f | extract x i | unOp op ty x=>
  have e1:=h x (by simp [Op.operands])
  simp only [pvU,e1]
 | binOp op ty x i uy=>
  have e1:=h x (by simp [Op.operands])
  have e2:=h i (by simp [Op.operands])
  simp only [pvU,e1,e2]
 | call c=>
  obtain ⟨callee,args,argTypes⟩:=c
  cases callee with
  | builtin b=>
   cases b with
   | len=>
    simp only [pvU]
    unfold bltP
    split
    ·rename_i x t ha _
     have hm:x∈args.toList:=by rw [ha];simp
     rw [h x (by simpa [Op.operands,Call.operands] using hm)]
    ·rfl
    ·rfl
   | _=>cases ht
  | _=>cases ht
 | _=>cases ht
theorem specU_at {st X:PSt} {kn kn':List (Nat×Bool)} (hA:Alike A st X kn kn') (hops:∀ t,.tmp t∈o.op.operands->A t):specU E o kn' X=specU E o kn st:=by
 have hev:∀ x∈o.op.operands,evK kn' X.φ x=evK kn st.φ x:=fun x hx=>hA.ev fun t e=>hops t (e ▸ hx)
 unfold specU
 rw [totalO_at hev]
 split
 ·rename_i ht
  exact pvU_total hev ht _
 ·rfl
theorem guardU_at {t:Nat} {want:Bool} {X:PSt} (hops:∀ t,.tmp t∈o.op.operands->A t) (ht:A t):∀ {n:Nat} {kn kn':List (Nat×Bool)} {st:PSt} {rc:Rec} {s:PSt},Alike A st X kn kn'->(∀ x,o.dst=some x->knows kn' x=none /\ ¬ A x)->Foot o.dst rc st X->guardU E o t want n kn st (fun rc s=>some (rc,s))=some (rc,s) ->
  ∃ s',guardU E o t want n kn' X (fun rc s=>some (rc,s))=some (rc,s') /\ Like s' (appR o.dst rc X) /\ SpIn X (some t) s'
 | 0,_,_,_,_,_,_,_,_,hv=>by cases hv
 | n+1,kn,kn',st,rc,s,hA,hk,hF,hv=>by
  have hx:∀ x,o.dst=some x->knows kn' x=none:=fun x hx=>(hk x hx).1
  have hkc:∀ (t':Nat) (b':Bool),A t' -> ∀ x,o.dst=some x->knows ((t',b')::kn') x=none /\ ¬ A x:=fun t' b' ht' x hx=>by
   refine ⟨?_,(hk x hx).2⟩
   unfold knows
   split
   ·rename_i e
    exact ((hk x hx).2 (Nat.eq_of_beq_eq_true e ▸ ht')).elim
   ·exact (hk x hx).1
  have hev:=hA.ev (x:=.tmp t) fun t' e=>by cases e;exact ht
  unfold guardU at hv ⊢
  rw [hev,hA.kn t ht,hA.φ t ht]
  split at hv
  ·rename_i b hb
   split at hv
   ·exact wayU_at hA hops hx hF hv
   ·rename_i hkt
    dsimp only
    rw [specU_at (hA.cons t want) hops]
    split at hv
    ·rename_i ag ls hs
     split at hv
     ·rename_i hfk
      simp only [Bool.and_eq_true] at hfk
      injection hv with hv
      obtain ⟨rfl,rfl⟩:=Prod.mk.inj hv
      have hfr:=freeD_free hfk.1
      have hne:∀ x,o.dst=some x->hasN (t::X.sp) x=false:=fun x hx=>by
       refine Bool.eq_false_iff.2 fun e=>?_
       rcases List.mem_cons.1 (hasN_iff.1 e) with rfl | e
       ·exact (hk _ hx).2 ht
       ·have:=hF.free x hx
        rw [hasN_iff.2 e] at this
        cases this
      have hfd:=freeD_at (φ:=X.φ) (L:=X.L) (O:=X.O) (fr:=X.fr) (kn:=kn') (sp:=t::X.sp) fun x hx'=>⟨hne x hx',hx x hx'⟩
      have hkeep:keepUpd X o.dst (.w ag ls)=true:=okUpd_at (st:=st) hfk.2 (fun k hk=>by cases hk) (fun p hp=>by cases hp) hF.fr fun x hx=>⟨(hF.ment x hx).1,fun p hp=>by cases hp⟩
      have hev2:∀ x∈o.op.operands,evK ((t,want)::kn') X.φ x=evK ((t,want)::kn) st.φ x:=fun x hx=>(hA.cons t want).ev fun t e=>hops t (e ▸ hx)
      have hlk:∀ x∈o.op.operands,∀ k∈keyP (evK ((t,want)::kn) st.φ x),X.L k=st.L k:=fun x hx k hk=>hF.L k (.inl (List.mem_append.2 (.inl (List.mem_flatMap.2 ⟨_,List.mem_map.2 ⟨x,by simpa using hx,rfl⟩,hk⟩))))
      rw [hfd,hkeep]
      rw [recU_at hev2 hlk]
      refine ⟨_,rfl,⟨rfl,rfl,putO_nil.symm,fun _=>rfl⟩,fun t' h=>?_⟩
      rcases List.mem_cons.1 (hasN_iff.1 h) with rfl | e
      ·exact .inr rfl
      ·exact .inl (hasN_iff.2 e)
     ·cases hv
    ·cases b with
     | true=>exact wayU_at (hA.cons t true) hops (fun x hx=>(hkc t true ht x hx).1) hF hv
     | false=>exact wayU_at (hA.cons t false) hops (fun x hx=>(hkc t false ht x hx).1) hF hv
  ·exact skipU_at hx hF.free hv
  ·split at hv
   ·rename_i t1 w1 ag1 ls1 hs1
    have ht1:A t1:=hA.cl t ht _ _ _ _ hs1
    have hev1:=hA.ev (x:=.tmp t1) fun t' e=>by cases e;exact ht1
    rw [hev1,hA.kn t1 ht1]
    split at hv
    ·rename_i b1 hb1 hk1
     cases b1 with
     | true=>exact guardU_at hops ht (hA.cons t1 true) (hkc t1 true ht1) hF hv
     | false=>exact guardU_at hops ht (hA.cons t1 false) (hkc t1 false ht1) hF hv
    ·cases hv
   ·cases hv
  ·cases hv
theorem pvStep_at {st X:PSt} {rc:Rec} {s:PSt} (hA:Alike A st X st.kn X.kn) (hl:∀ t,t∈o.looksAt ops->A t) (hk:∀ x,o.dst=some x->knows X.kn x=none /\ ¬ A x) (hF:Foot o.dst rc st X) (hv:pvStep E ops o st (fun rc s=>some (rc,s))=some (rc,s)) :
  ∃ s',pvStep E ops o X (fun rc s=>some (rc,s))=some (rc,s') /\ Like s' (appR o.dst rc X) /\ SpIn X (gslot ops o) s':=by
 have hops:∀ t,.tmp t∈o.op.operands->A t:=fun t ht=>hl t (List.mem_append.2 (.inl (List.mem_filterMap.2 ⟨.tmp t,by simpa using ht,rfl⟩)))
 unfold pvStep at hv ⊢
 unfold gslot
 split at hv
 ·exact stepU_at hA hops (fun x hx=>(hk x hx).1) hF hv
 ·rename_i j want hg
  split at hv
  ·cases hv
  ·rename_i t ht
   simp only [hg,ht]
   refine guardU_at hops (hl t (List.mem_append.2 (.inr ?_))) hA hk hF hv
   rw [hg]
   simp [ht]
end
section
variable {E : Env} {R : Type} {r : R} {ops : Array Oper} {o : Oper}
inductive Run (E:Env) (ops:Array Oper):List Oper->PSt->List Rec->PSt->Prop
 | nil {st}:Run E ops [] st [] st
 | cons {o l st rc s1 rs s2}:pvStep E ops o st (fun rc s=>some (rc,s))=some (rc,s1)->Run E ops l s1 rs s2->Run E ops (o::l) st (rc::rs) s2
theorem pvOps_run:∀ (l:List Oper) (tr:List Rec) (st:PSt) (C:List Rec->PSt->Option R),pvOps E ops l tr st C=some r -> ∃ rs s,C (tr++rs) s=some r /\ Run E ops l st rs s
 | [],tr,st,C,h=>⟨[],st,by rw [List.append_nil];exact h,.nil⟩
 | o::l,tr,st,C,h=>by
  unfold pvOps at h
  obtain ⟨rc,s,h1,h2⟩:=pvStep_nat h
  obtain ⟨rs,s2,h3,h4⟩:=pvOps_run l _ _ _ h1
  exact ⟨rc::rs,s2,by rw [List.append_assoc] at h3;exact h3,.cons (h2 _) h4⟩
theorem Run.len {l:List Oper} {st s:PSt} {rs:List Rec} (h:Run E ops l st rs s):rs.length=l.length:=by
 induction h with
 | nil=>rfl
 | cons _ _ ih=>simp [ih]
def fold (S:Nat->Bool):List Oper->List Rec->Nat->PSt->PSt
 | o::l,rc::rs,k,X=>fold S l rs (k+1) (cond (S k) (appR o.dst rc X) X)
 | _,_,_,X=>X
structure View {β:Type} (f:PSt->β) (T:Option Nat->Rec->Prop):Prop where
 cong:∀ d rc X X',f X=f X'->f (appR d rc X)=f (appR d rc X')
 keep:∀ d rc X,¬ T d rc->f (appR d rc X)=f X
section
variable {β : Type} {f : PSt -> β} {T : Option Nat -> Rec -> Prop}
theorem fold_agree (hf:View f T) {S S':Nat->Bool}:∀ (l:List Oper) (rs:List Rec) (k:Nat) (X X':PSt),f X=f X'->(∀ i o rc,l[i]? = some o->rs[i]? = some rc->S (k+i)=S' (k+i) \/ ¬ T o.dst rc)->f (fold S l rs k X)=f (fold S' l rs k X')
 | [],_,_,_,_,h,_=>h
 | _::_,[],_,_,_,h,_=>h
 | o::l,rc::rs,k,X,X',h,hS=>by
  unfold fold
  refine fold_agree hf l rs (k+1) _ _ ?_ fun i o' rc' h1 h2=>by
   have:=hS (i+1) o' rc' h1 h2
   rw [show k+1+i=k+(i+1) by omega];exact this
  have h0:S k=S' k \/ ¬ T o.dst rc:=hS 0 o rc rfl rfl
  rcases h0 with e | hn
  ·rw [e]
   cases S' k with
   | true=>exact hf.cong _ _ _ _ h
   | false=>exact h
  ·cases S k <;> cases S' k <;> simp only [cond_true,cond_false,hf.keep _ _ _ hn,h]
theorem fold_keep (hf:View f T) {S:Nat->Bool}:∀ (l:List Oper) (rs:List Rec) (k:Nat) (X:PSt),(∀ i o rc,l[i]? = some o->rs[i]? = some rc->S (k+i)=true -> ¬ T o.dst rc)->f (fold S l rs k X)=f X
 | [],_,_,_,_=>rfl
 | _::_,[],_,_,_=>rfl
 | o::l,rc::rs,k,X,hS=>by
  unfold fold
  rw [fold_keep hf l rs (k+1) _ fun i o' rc' h1 h2 h3=>hS (i+1) o' rc' h1 h2 (by rw [show k+(i+1)=k+1+i by omega];exact h3)]
  cases hk:S k with
  | true=>exact hf.keep _ _ _ (hS 0 o rc rfl rfl hk)
  | false=>rfl
theorem fold_add (hf:View f T) {S S':Nat->Bool} {j:Nat} {oj:Oper} {rj:Rec} (hj:S j=false) (hj':S' j=true) (hS':∀ i,i≠j->S' i=S i):∀ (l:List Oper) (rs:List Rec) (k n:Nat) (X:PSt),j=k+n->l[n]? = some oj->rs[n]? = some rj ->
  (T oj.dst rj -> ∀ i o rc,n < i->l[i]? = some o->rs[i]? = some rc->S (k+i)=true -> ¬ T o.dst rc)->f (fold S' l rs k X)=f (appR oj.dst rj (fold S l rs k X))
 | [],_,_,_,_,_,h,_,_=>by simp at h
 | _::_,[],_,_,_,_,_,h,_=>by simp at h
 | o::l,rc::rs,k,0,X,hk,h1,h2,hT=>by
  have hk:j=k:=hk
  subst hk
  cases h1;cases h2
  unfold fold
  rw [hj,hj']
  show f (fold S' l rs (j+1) (appR oj.dst rj X))=f (appR oj.dst rj (fold S l rs (j+1) X))
  have e1:∀ Y,f (fold S' l rs (j+1) Y)=f (fold S l rs (j+1) Y):=fun Y=>fold_agree hf l rs (j+1) _ _ rfl fun i o' rc' _ _=>.inl (hS' _ (by omega))
  rw [e1]
  by_cases ht:T oj.dst rj
  ·have hq:=hT ht
   have hk2:∀ Y,f (fold S l rs (j+1) Y)=f Y:=fun Y=>fold_keep hf l rs (j+1) Y fun i o' rc' g1 g2 g3=>hq (i+1) o' rc' (by omega) g1 g2 (by rw [show j+(i+1)=j+1+i by omega];exact g3)
   rw [hk2,hf.cong _ _ _ _ (hk2 X)]
  ·rw [hf.keep _ _ _ ht]
   exact fold_agree hf l rs (j+1) _ _ (hf.keep _ _ _ ht) fun i o' rc' _ _=>.inl rfl
 | o::l,rc::rs,k,n+1,X,hk,h1,h2,hT=>by
  unfold fold
  rw [hS' k (by omega)]
  exact fold_add hf hj hj' hS' l rs (k+1) n _ (by omega) h1 h2 fun ht i o' rc' hi g1 g2 g3=>hT ht (i+1) o' rc' (by omega) g1 g2 (by rw [show k+(i+1)=k+1+i by omega];exact g3)
end
theorem view_φ (t:Nat):View (fun X=>X.φ t) (fun d _=>d=some t):=
 ⟨fun d rc X X' h=>by
  show putP X.φ d rc.val t=putP X'.φ d rc.val t
  by_cases e:d=some t
  ·rw [e,putP_at,putP_at]
  ·rw [putP_ne e,putP_ne e];exact h,fun d rc X h=>putP_ne h⟩
theorem view_L (k:Nat):View (fun X=>X.L k) (fun _ rc=>k∈rc.keysW):=
 ⟨fun d rc X X' h=>(putL_congr (L:=X'.L) (L':=X.L) h rc.loc),fun d rc X h=>by
  show putL X.L rc.loc k=X.L k
  have:∀ l:List (Nat×List Leaf),k ∉ l.map (·.1)->putL X.L l k=X.L k:=fun l=>by
   induction l with
   | nil=>intro _;rfl
   | cons p r ih=>
    intro hn
    obtain ⟨k',ls⟩:=p
    unfold putL
    split
    ·rename_i e
     exact (hn (by rw [Nat.eq_of_beq_eq_true e];simp)).elim
    ·exact ih fun e=>hn (by simp at e ⊢;exact .inr e)
  exact this _ h⟩
theorem view_O (t:Tok):View (fun X=>X.O t) (fun _ rc=>t∈rc.born \/ t∈rc.gone):=
 ⟨fun d rc X X' h=>by
  show putO X.O rc.born rc.gone t=putO X'.O rc.born rc.gone t
  have h':X.O t=X'.O t:=h
  unfold putO
  rw [h'],fun d rc X h=>by
  show putO X.O rc.born rc.gone t=X.O t
  unfold putO
  split
  ·rename_i e;exact (h (.inl (hasT_iff.1 e))).elim
  ·split
   ·rename_i e;exact (h (.inr (hasT_iff.1 e))).elim
   ·rfl⟩
theorem hasN_out {d:Option Nat} {l:List Nat} {x:Nat}:hasN (outN d l) x=true↔hasN l x=true /\ d≠some x:=by
 rw [hasN_iff,hasN_iff]
 exact outN_mem
theorem view_fr (x:Nat):View (fun X=>hasN X.fr x) (fun d _=>d=some x):=
 ⟨fun d rc X X' h=>by
  have h':hasN X.fr x=hasN X'.fr x:=h
  show hasN (outN d X.fr) x=hasN (outN d X'.fr) x
  rw [Bool.eq_iff_iff,hasN_out,hasN_out,h'],fun d rc X h=>by
  show hasN (outN d X.fr) x=hasN X.fr x
  rw [Bool.eq_iff_iff,hasN_out]
  exact ⟨fun e=>e.1,fun e=>⟨e,h⟩⟩⟩
end
end Pv
end Go.Proofs.YtgfmfgombmpodaaGreatDoor
