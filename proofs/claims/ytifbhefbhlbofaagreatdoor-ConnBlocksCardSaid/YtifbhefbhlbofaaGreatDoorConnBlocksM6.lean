/- Texts of this claim, one behind the other. -/
import Derived.Test.YtifbhefbhlbofaaGreatDoorConnBlocksM5
import Derived.Shelf.Spec.SlicesGrow
import Derived.Laws.BitsLemmas
import Ieee.Arith
import GoSem.Core.Float
import Derived.Laws.Bits128
set_option maxRecDepth 100000
namespace Go.Proofs.YtifbhefbhlbofaaGreatDoor
open Go.RowKit Go.Maps Go.Sort Go.Shelf Go.Lib Pv
set_option linter.unusedVariables false
namespace Pv
theorem parK_v:∀ {ps:List Par} {ls:List Leaf} (i:Nat),ps.all Par.isv=true->parK ps ls i=none
 | [],_,_,_=>rfl
 | .v _ _::_,_,0,_=>rfl
 | .v b ts::ps,ls,i+1,h=>parK_v (ps:=ps) (ls:=ls.drop (Par.v b ts).ts.length) i (by simpa [Par.isv] using h)
 | .m _::_,_,_,h=>by simp [Par.isv] at h
theorem sound_ofP {P:Program} {T:Tab} {f:FuncId} {s:Sig} {fn:s.Fn} (hp:s.ps.all Par.isv=true)
    (H:∀ (F:Fr) (g:Gh) (O:Tok->Bool) (xs:List Dat) (ls:List Leaf) (pl:List (Nat×List Leaf)) (y:s.out.D) (tmf:Nat->Value) (w:World) (args:Array Value),(∀ p∈T,∃ ty fr,w.heap[p.1]? = some (.cells p.2 ty fr))->F.w0=w->(∀ b o,g.C b o->b < w.heap.size)->mkLs (Tok.hd 0) (parsT s.ps) 0 (xs.take (parsT s.ps).length)=some ls->mkPools s.pls (xs.drop (parsT s.ps).length)=some pl->(∀ k σ x,findL pl k=some (σ,x)->isPool k=true->PoolOk F g w x k)->appF s.ins fn.f xs=some y->args.size=s.ps.length ->
      (∀ i,RelP F g w O tmf (args.getD i undef) (parP s.ps ls i))->Calls P f args w fun e w'=>∃ us os,∃ C':Nat->Nat->Prop,∃ blk',e=.returned (retV us) /\ us.length=s.rs.length /\ mkLs (Tok.hd 0) s.outs 0 (unpackD s.outTs y)=some os /\ Below w.heap.size w w' /\
        (∀ b o,b < w.heap.size->(C' b o↔g.C b o)) /\ (∀ b o,C' b o->b < w'.heap.size) /\ blk' .zero=none /\ (∀ k b,blk' k=some b->w.heap.size<=b /\ b < w'.heap.size) /\ (∀ k k' b,blk' k=some b->blk' k'=some b->k=k') /\
        ∀ i,i < s.rs.length->RelP F ⟨⟨C',g.C.i⟩,blk',g.ρ,fun _ _=>[],g.ow,g.ver⟩ w' (exitO s) tmf (us.getD i undef) (resAt s.rs os i)) (hpls:wPls s.pls=[]):SoundFn P T f s fn:=by
  intro F g st xs y tmf w args hT hent happ hrel hw hPT hn hsz htm
  unfold entrySt at hent
  split at hent
  case h_1=>cases hent
  case h_2=>cases hent
  rename_i ls pl hls hpl
  injection hent with hent
  have hφ:∀ i,st.φ i=parP s.ps ls i:=fun i=>by
    rw [<-hent]
    show (match isM s.ps i with | true=>PV.loc i 0 | false=>parP s.ps ls i)=_
    rw [isM_v i hp]
  refine (H F g st.O xs ls pl y tmf w args (fun p hp => (tab_now hT hrel.fr p hp).1) hw hrel.fr.lim hls hpl (fun k σ x hk hk2 => hrel.pools k σ x (by
      rw [<-hent]
      show (match parK s.ps ls k with | some l=>some ((0:Nat),l) | none=>findL pl k)=_
      rw [parK_v k hp]
      exact hk) hk2) happ hsz fun i=>?_).mono ?_
  · have:=hrel.slots i
    rw [hφ,htm] at this
    exact this
  · rintro e w' ⟨us,os,C',blk',he,hus,hos,hbel,hC,hlim,hb0,hbk,hbi,hres⟩
    refine ⟨us,⟨⟨C',g.C.i⟩,blk',g.ρ,fun _ _=>[],g.ow,g.ver⟩,⟨resAt s.rs os,fun _=>none,exitO s,[],[],[]⟩,he,hus,?_,?_,fun k hk=>absurd ((isM_v k hp).symm.trans hk) (by decide)⟩
    · unfold exitSt
      have hol:=mkLs_len hos
      rw [List.take_of_length_le (Nat.le_of_eq hol),List.drop_of_length_le (Nat.le_of_eq hol),hos,hpls]
      show some (PSt.mk (resAt s.rs os) (fun k=>match inoutAt s.ps (os.drop s.nres) k with | some l=>some ((0:Nat),l) | none=>findL [] k) (exitO s) [] [] [])=some (PSt.mk (resAt s.rs os) (fun _=>none) (exitO s) [] [] [])
      congr 2
      funext k
      rw [inoutAt_v k hp]
      rfl
    · have hfr:=hrel.fr
      have h00:F.w0.heap.size<=w.heap.size:=hfr.size
      refine ⟨?_,fun i=>?_,fun k σ ls hl=>(by cases hl),fun k σ ls hl=>(by cases hl),fun k σ ls hl=>(by cases hl),fun t b hk=>(by cases hk),fun i t want ag ls hs=>?_,fun d hd=>(by cases hd),fun i k hk=>?_,hb0,fun k k' b _ _ h1 h2=>hbi k k' b h1 h2,fun k b j x _ _ hj=>(nomatch hj),fun k b _ h=>(hbk k b h).2,fun k b _ h=>.inl (Nat.le_trans h00 (hbk k b h).1),fun j j' x x' hj=>(nomatch hj),⟨fun t b _ hb=>?_,fun k x hx=>(nomatch hx),fun b o h'=>Nat.lt_of_lt_of_le (hrel.ows.lim b o h') hbel.size,hrel.ows.fr,hrel.ows.mono,hrel.ows.i,fun b k j s h' hpt=>?_⟩⟩
      · have hf2:=hfr.below hbel
        refine ⟨hf2.size,hf2.os,hf2.tape,hf2.output,hf2.old,hf2.shape,fun b o hb hx=>?_,fun b o h=>?_,hf2.imono,hlim⟩
        · exact (hC b o (Nat.lt_of_lt_of_le hb h00)).trans (hfr.com b o hb hx)
        · have hgc:=hfr.mono b o h
          exact (hC b o (hfr.lim b o hgc)).2 hgc
      · show RelP F ⟨⟨C',g.C.i⟩,blk',g.ρ,fun _ _=>[],g.ow,g.ver⟩ w' (exitO s) (fun i=>us.getD i undef) (us.getD i undef) (resAt s.rs os i)
        rcases Nat.lt_or_ge i s.rs.length with hi | hi
        · have h:=hres i hi
          rcases resAt_w (rs:=s.rs) (ls:=os) i with ⟨ag,os',e⟩ | e
          · rw [e] at h ⊢;exact h
          · rw [e];trivial
        · rw [resAt_out hi];trivial
      · have hs:resAt s.rs os i=.spec t want ag ls:=hs
        rcases resAt_w (rs:=s.rs) (ls:=os) i with ⟨ag,os',e⟩ | e
        · rw [e] at hs;cases hs
        · rw [e] at hs;cases hs
      · have hk:k∈keyP (resAt s.rs os i):=hk
        rcases resAt_w (rs:=s.rs) (ls:=os) i with ⟨ag,os',e⟩ | e
        · rw [e] at hk;cases hk
        · rw [e] at hk;cases hk
      · have h1:=(hbk t b hb).1
        cases h2:g.ow b with
        | none=>rfl
        | some o=>
          have:=hrel.ows.lim b o h2
          omega
      · obtain ⟨e,he⟩:=(hPT k).1 hpt
        have he':=wPls_mem.2 ⟨rfl,he⟩
        rw [hpls] at he'
        cases he'
end Pv
theorem own_empty {w:World} {b clock:Nat} (hb:w.heap[b]? = some (.map #[] clock)):w.ownsMap (H:=Unit) Tryz.prog 3 (fun _=>none) b 0 (.map []):=
 ⟨#[],clock,hb,⟨Nat.zero_le _,⟨by simp,by simp⟩,fun x hx=>by simp at hx⟩,Nat.le_refl _,rfl⟩
theorem cnSorts (m:Nat):AnyZI.SortsIn Tryz.prog Tryz.cnSorted_ren Fence.wide m:=
  ⟨fun blk off cap ss W hH hblk hsz=>callsIn_wide.2 (AnyM.slices_Sort_int Tryz.cnSort blk off cap ss W hH hblk hsz),
   fun p cap W=>callsIn_wide.2 (AnyM.slices_Sort_int_none Tryz.cnSort p cap W)⟩
theorem idx_calls (fv:Value) (w:World):Calls Tryz.prog 131 #[.slice none 0 0,fv] w fun e w'=>e=.returned (.int .i64 (-1)) /\ w'=w:=by
 go_enter Tryz.func131,Tryz.ntmps131
 go_wp2
 go_loopw [8] (fun v wr=>v=.int .i64 0 /\ wr=w) (fun _ _=>1)
 case atStart=>exact ⟨rfl,rfl⟩
 case round=>
  obtain ⟨rfl,rfl⟩:=hrel
  go_wp2
  go_ret
  exact ⟨rfl,rfl⟩
theorem del_calls (fv:Value) (w:World):Calls Tryz.prog 75 #[.slice none 0 0,fv] w fun e w'=>e=.returned (.slice none 0 0) /\ w'=w:=by
 go_enter Tryz.func75,Tryz.ntmps75
 go_wp2_with (go_at_call 131;(with_reducible refine (idx_calls _ _).mono ?_);rintro e w1 ⟨rfl,hw1⟩;rw [hw1])
 go_ret
 exact ⟨rfl,rfl⟩
set_option maxHeartbeats 4000000 in
set_option maxRecDepth 1000000 in
theorem open_walk (cb mb clock:Nat) (w:World) (hcell:w.cell? ⟨cb,19,none⟩=some (.map (some mb))) (hm:w.heap[mb]? = some (.map #[] clock)) :
  Calls Tryz.prog 30 #[.pointer (some ⟨cb,0,none⟩)] w fun e w'=>e=.returned (.slice none 0 0) /\ Below w.heap.size w w':=by
 refine (callsIn_wide (n:=6)).1 ?_
 have hbl:mb < w.heap.size:=(Array.getElem?_eq_some_iff.1 hm).1
 have hs1:(w.alloc (.cells #[.pointer (some ⟨cb,0,none⟩)] 48)).heap.size=w.heap.size+1:=by simp
 have hcell1:(w.alloc (.cells #[.pointer (some ⟨cb,0,none⟩)] 48)).cell? ⟨cb,19,none⟩=some (.map (some mb)):=Go.Lib.cell?_alloc_some _ hcell
 have hm1:(w.alloc (.cells #[.pointer (some ⟨cb,0,none⟩)] 48)).heap[mb]? = some (.map #[] clock):=(Below.heap_alloc _ _ mb hbl).trans hm
 have hseq:SeqGives Fence.wide 2 Tryz.prog 134 #[.pointer (some ⟨(w.alloc (.cells #[.pointer (some ⟨cb,0,none⟩)] 48)).heap.size,0,none⟩)] encZ (fun ss=>ss.Perm (intKeys (.map []:DataW Unit))) (Maps.size (.map []:DataW Unit)) ((w.alloc (.cells #[.pointer (some ⟨cb,0,none⟩)] 48)).alloc (.cells #[.map (some mb)] 121)):=
  AnyZI.keys_gives (ρ:=Tryz.cnKeys_ren) { Tryz.cnKeys with } Fence.wide _ trivial rfl (by omega) (w.alloc (.cells #[.pointer (some ⟨cb,0,none⟩)] 48)).heap.size mb 0 _ _ (by simp) (by simp) (own_empty ((Below.heap_alloc _ _ mb (by omega)).trans hm1))
 have cK:∀ mb W,CallsIn Fence.wide 5 Tryz.prog 77 #[.map mb] W fun e w'=>e=.returned (.func (.func 134) #[] #[.pointer (some ⟨W.heap.size,0,none⟩)]) /\ w'=W.alloc (.cells #[.map mb] 121):=fun mb W=>AnyZI.keys_in Tryz.cnKeys Fence.wide 5 trivial rfl mb W
 have cS:=AnyZI.sorted_in Tryz.cnSorted Fence.wide 5 trivial trivial trivial trivial rfl (by omega) (cnSorts _) (enters_of Tryz.func133 (by kernel_rfl) rfl) 134 #[.pointer (some ⟨(w.alloc (.cells #[.pointer (some ⟨cb,0,none⟩)] 48)).heap.size,0,none⟩)] trivial (enters_of Tryz.func134 (by kernel_rfl) rfl) _ _ (by decide) (by decide) _ hseq
 change CallsIn _ _ Tryz.prog 76 _ _ _ at cS
 rw [hs1] at cS
 have cD:∀ fv W,CallsIn Fence.wide 5 Tryz.prog 75 #[.slice none 0 0,fv] W fun e w'=>e=.returned (.slice none 0 0) /\ w'=W:=fun fv W=>callsIn_wide.2 (del_calls fv W)
 have hfK:Fence.wide.fn 77:=trivial
 have hfS:Fence.wide.fn 76:=trivial
 have hfD:Fence.wide.fn 75:=trivial
 refine callsIn_of_wp Tryz.func30 rfl trivial ?_ rfl
 simp only [Tryz.ntmps30,List.size_toArray,List.length_cons,List.length_nil,Nat.reduceAdd,Nat.reduceSub,Array.replicate_succ,Array.replicate_zero,List.push_toArray,List.append_toArray,List.nil_append,List.cons_append]
 gi_wp2_with (first
  | (gi_at_call 77;refine (cK _ _).mono ?_;rintro e w' ⟨rfl,rfl⟩)
  | (gi_at_call 76;refine cS.mono ?_;rintro e w' ⟨v,ss,rfl,hS,hrow,hnil,hb⟩;obtain rfl:v=.slice none 0 0:=hnil.2 (List.Perm.eq_nil hS);clear hnil hrow hS)
  | (gi_at_call 75;refine (cD _ _).mono ?_;rintro e w' ⟨rfl,rfl⟩))
 go_ret
 exact ⟨rfl,(((Below.refl _ w).alloc (Nat.le_refl _) _).alloc (by rw [hs1];omega) _).trans (hb.mono (by simp;omega))⟩
theorem pool_item {F:Fr} {g:Gh} {w:World} {k:Nat} {e:Ty} {l:List e.D} (h:PoolOk F g w [.d (.sl e) l] k) {j:Nat} {x:e.D} (hx:l[j]? = some x):ItemOk g w k e j x:=by
 obtain ⟨e',l',h1,h2,h3⟩:=h
 rcases h1 with ⟨v,h1,_⟩ | h1
 ·cases h1
 ·cases h1;exact h3 j x hx
theorem getI_inv {α:Type} {l:List α} {p:Int} {x:α} (h:getI l p=some x):∃ n:Nat,p=(n:Int) /\ l[n]? = some x:=by
 unfold getI at h
 cases hd:decide (0<=p) with
 | false=>rw [hd] at h;cases h
 | true=>
  rw [hd,cond_true] at h
  have:=of_decide_eq_true hd
  exact ⟨p.toNat,by omega,h⟩
theorem conn_map {w:World} {C:Com} {c:CnC} {cs:List Value} (h:RepD w C cnCt c cs):∃ q,RepP C (mk 121) c.2.2.2.2.2.2.2.2.2.1 q /\ cs[19]? = some (.map q):=by
 obtain ⟨r1,s1,rfl,h1,k1⟩:=h
 obtain ⟨r2,s2,rfl,h2,k2⟩:=k1
 obtain ⟨r3,s3,rfl,h3,k3⟩:=k2
 obtain ⟨r4,s4,rfl,h4,k4⟩:=k3
 obtain ⟨r5,s5,rfl,h5,k5⟩:=k4
 obtain ⟨r6,s6,rfl,h6,k6⟩:=k5
 obtain ⟨r7,s7,rfl,h7,k7⟩:=k6
 obtain ⟨r8,s8,rfl,h8,k8⟩:=k7
 obtain ⟨r9,s9,rfl,h9,k9⟩:=k8
 obtain ⟨rA,sA,rfl,hA,kA⟩:=k9
 obtain ⟨q,hq,rfl⟩:=hA
 refine ⟨q,hq,?_⟩
 have l1:r1.length=6:=RepD.len h1
 have l2:r2.length=1:=RepD.len h2
 have l3:r3.length=6:=RepD.len h3
 have l4:r4.length=1:=RepD.len h4
 have l5:r5.length=1:=RepD.len h5
 have l6:r6.length=1:=RepD.len h6
 have l7:r7.length=1:=RepD.len h7
 have l8:r8.length=1:=RepD.len h8
 have l9:r9.length=1:=RepD.len h9
 rw [List.getElem?_append_right (by omega),List.getElem?_append_right (by omega),List.getElem?_append_right (by omega),List.getElem?_append_right (by omega),List.getElem?_append_right (by omega),List.getElem?_append_right (by omega),List.getElem?_append_right (by omega),List.getElem?_append_right (by omega),List.getElem?_append_right (by omega),l1,l2,l3,l4,l5,l6,l7,l8,l9]
 rfl
theorem F_conn_Conn_Open_sound {T:Tab}:SoundFn Tryz.prog T 30 F_conn_Conn_Open_sig ⟨F_conn_Conn_Open⟩:=by
 refine sound_ofP rfl (fun F g O xs ls pl y tmf w args hT hw hlim hls hpl hpo happ hsz hr=>?_) rfl
 obtain ⟨(p:Int),xs1,rfl,h2⟩:=appF_inv_c (ts:=[.sl cnMt,.sl cnCt,.sl cnSt]) happ
 obtain ⟨(M:List CnM),xs2,rfl,h3⟩:=appF_inv_c (ts:=[.sl cnCt,.sl cnSt]) h2
 obtain ⟨(C:List CnC),xs3,rfl,h4⟩:=appF_inv_c (ts:=[.sl cnSt]) h3
 obtain ⟨(S:List CnS),xs4,rfl,h5⟩:=appF_inv_c (ts:=[]) h4
 obtain ⟨rfl,h6⟩:=appF_inv_n h5
 have hls':some [Leaf.d (.ptr 126) p]=some ls:=hls
 injection hls' with hls'
 subst hls'
 have hpl':some [(mk 121,[Leaf.d (.sl cnMt) M]),(pk 126,[Leaf.d (.sl cnCt) C]),(pk 139,[Leaf.d (.sl cnSt) S])]=some pl:=hpl
 injection hpl' with hpl'
 subst hpl'
 have pM:=hpo (mk 121) 0 _ rfl (isPool_mk _)
 have pC:=hpo (pk 126) 0 _ rfl (isPool_pk _)
 have h6:F_conn_Conn_Open p M C S=some y:=h6
 unfold F_conn_Conn_Open at h6
 obtain ⟨c,hc,h6⟩:=Option.bind_eq_some_iff.1 h6
 obtain ⟨m,hm,h6⟩:=Option.bind_eq_some_iff.1 h6
 obtain ⟨n,rfl,hcn⟩:=getI_inv hc
 obtain ⟨mi,hmi,hmn⟩:=getI_inv hm
 cases m with
 | cons a l=>cases h6
 | nil=>
  have hy:([]:List Int)=y:=by injection h6
  subst hy
  have iC:=pool_item pC hcn
  unfold ItemOk at iC
  rw [isMapK_pk] at iC
  obtain ⟨cb,cur,TT,fr,j1,j2,j3,j4,_⟩:=iC
  have iM:=pool_item pM hmn
  unfold ItemOk at iM
  rw [isMapK_mk] at iM
  obtain ⟨mb,es,clock,m1,m2,m3,m4,m5⟩:=iM
  have hes:es = #[]:=by
   have h0:es.toList.length=0:=m5.1
   exact Array.eq_empty_of_size_eq_zero (by simpa using h0)
  subst hes
  obtain ⟨q,hq,hcq⟩:=conn_map j4
  have hq':q=some mb:=by
   rcases hq with ⟨e1,_⟩ | ⟨jj,b,e1,e2,e3⟩
   ·rw [hmi] at e1
    have e1:(mi:Int) = -1:=e1
    omega
   ·rw [hmi] at e1
    have e1:(mi:Int)=(jj:Int):=e1
    have:mi=jj:=by omega
    subst this
    rw [m1] at e2
    cases e2
    exact e3
  subst hq'
  have e0:args.getD 0 undef=.pointer (some ⟨cb,0,none⟩):=by
   obtain ⟨pp,h1,h2⟩:=rel_leaf.1 (hr 0)
   have h2:args.getD 0 undef=.pointer (pp.map fun b=>⟨b,0,none⟩):=by injection h2
   rw [h2]
   rcases h1 with ⟨e1,_⟩ | ⟨jj,b,e1,e2,e3⟩
   ·have e1:(n:Int) = -1:=e1
    omega
   ·have e1:(n:Int)=(jj:Int):=e1
    have:n=jj:=by omega
    subst this
    rw [j1] at e2
    cases e2
    rw [e3];rfl
  rw [args_1 hsz,e0]
  have hcell:w.cell? ⟨cb,19,none⟩=some (.map (some mb)):=by
   rw [cell_at j3,<- Array.getElem?_toList]
   exact hcq
  refine (open_walk cb mb clock w hcell m3).mono ?_
  rintro e w' ⟨rfl,hbel⟩
  exact own_nil hlim hbel rfl rfl
end Go.Proofs.YtifbhefbhlbofaaGreatDoor
namespace Go.Proofs.YtifbhefbhlbofaaGreatDoor
open Go.RowKit Go.Lib Pv
set_option linter.unusedVariables false

set_option maxHeartbeats 4000000 in
set_option maxRecDepth 1000000 in
theorem scl_at (a:Addr) (n c:Nat) (l:List Int) (w:World) (hl:l.length=n) (hbig:n<=140737488355328) (hc:∀ (i:Nat) x,l[i]? = some x->w.cell? (a.add i)=some (.int .u8 x)) :
  Calls Tryz.prog 57 #[.slice (some a) n c] w fun e w'=>∃ v',e=.returned v' /\ w'.ownsRow w.heap.size 5 1 v' n (l.map (Value.int .u8)) /\ Below w.heap.size w w':=by
 obtain ⟨i0,hi,hz0,hz1,hz2⟩:=info_parts infoU
 have q22:∀ (w:World) (a:Option Addr) (n c n' c':Nat),(binOp .eql 32 (.slice a n c) (.slice none n' c')).run Tryz.prog w=.ok (.bool a.isNone) w:=fun w a n c n' c'=>Lib.run_eql_slice_nil w _ _ a n c n' c' Tryz.underlying32
 have A:Aside (∀ (i:Nat) x,l[i]? = some x->w.cell? (a.add i)=some (.int .u8 x)):=hc
 clear hc
 go_enter Tryz.func57,Tryz.ntmps57
 go_wp2_with (at_builtin;refine wpList_append_own _ rfl _ _ 32 rfl w.heap.size 5 i0 (.int .u8 0) 1 1 Tryz.underlying32 hi hz0 hz1 hz2 rfl (by decide) _ _ _ rfl (World.ownsRow_made w #[] 0 (Nat.le_refl _) (Nat.zero_le _) rfl) a n c (l.map (Value.int .u8)) rfl ?qc1 ?qc2 ?qc3 ?qc4 ?qc5 ?qc6 ?_)
 case qc1=>simp;omega
 case qc2=>
  intro j u hj
  rw [List.getElem?_map] at hj
  obtain ⟨x,hx,rfl⟩:=Option.map_eq_some_iff.1 hj
  exact Lib.cell?_alloc_some _ (A.out j x hx)
 case qc3=>intro u hu;obtain ⟨x,_,rfl⟩:=List.mem_map.1 hu;rfl
 case qc4=>unfold maxLen;omega
 case qc5=>omega
 case qc6=>simp
 intro v' w1 hown hgrow hnil
 go_wp2
 go_ret
 exact ⟨v',rfl,by simpa using hown,((Below.refl _ w).alloc (Nat.le_refl _) _).grown hgrow (by simp) (by intro k hk;simp [Value.ownBlock] at hk;omega)⟩
set_option maxHeartbeats 4000000 in
theorem scl_nil (n c:Nat) (w:World):Calls Tryz.prog 57 #[.slice none n c] w fun e w'=>e=.returned (.slice none 0 0) /\ w'=w:=by
 have q22:∀ (w:World) (a:Option Addr) (n c n' c':Nat),(binOp .eql 32 (.slice a n c) (.slice none n' c')).run Tryz.prog w=.ok (.bool a.isNone) w:=fun w a n c n' c'=>Lib.run_eql_slice_nil w _ _ a n c n' c' Tryz.underlying32
 go_enter Tryz.func57,Tryz.ntmps57
 go_wp2
 go_ret
 exact ⟨rfl,rfl⟩
theorem F_slices_Clone_byte_byte_sound {T:Tab}:SoundFn Tryz.prog T 57 F_slices_Clone_byte_byte_sig ⟨F_slices_Clone_byte_byte⟩:=by
 refine sound_of rfl fun F g O xs ls y tmf w args hT hw hlim hls happ hsz hr=>?_
 obtain ⟨(l:List Int),xs',rfl,h2⟩:=appF_inv_c (ts:=[]) happ
 obtain ⟨rfl,h3⟩:=appF_inv_n h2
 have hls':some [Leaf.d (.sl (.int .u8)) l]=some ls:=hls
 injection hls' with hls'
 subst hls'
 obtain ⟨a,n,c,e0,e1,e2,e3,e4,e5,e6⟩:=rel_ints (hr 0)
 rw [args_1 hsz,e0]
 have h3:cond (Nat.ble l.length 100000000) (some l) none=some y:=h3
 cases hb:Nat.ble l.length 100000000 with
 | false=>rw [hb] at h3;cases h3
 | true=>
  rw [hb] at h3
  have hy:l=y:=by injection h3
  have hb:=Nat.le_of_ble_eq_true hb
  subst hy
  cases a with
  | none=>
   have hl:=e6 rfl
   refine (scl_nil n c w).mono ?_
   rintro e w' ⟨rfl,rfl⟩
   exact own_row (l:=l) hw hlim (Below.refl _ _) (by rw [hl];exact World.ownsRow_nil _ _ _ _) e4 rfl rfl
  | some ad=>
   refine (scl_at ad n c l w e1 (by omega) (e5 ad rfl)).mono ?_
   rintro e w' ⟨v,rfl,h1,h2⟩
   exact own_row (l:=l) hw hlim h2 (by rw [e1];exact h1) e4 rfl rfl

set_option maxHeartbeats 4000000 in
set_option maxRecDepth 1000000 in
theorem bcl_at (a:Addr) (n c:Nat) (l:List Int) (w:World) (hl:l.length=n) (hbig:n<=140737488355328) (hc:∀ (i:Nat) x,l[i]? = some x->w.cell? (a.add i)=some (.int .u8 x)) :
  Calls Tryz.prog 66 #[.slice (some a) n c] w fun e w'=>∃ v',e=.returned v' /\ w'.ownsRow w.heap.size 5 1 v' n (l.map (Value.int .u8)) /\ Below w.heap.size w w':=by
 obtain ⟨i0,hi,hz0,hz1,hz2⟩:=info_parts infoU
 have q22:∀ (w:World) (a:Option Addr) (n c n' c':Nat),(binOp .eql 32 (.slice a n c) (.slice none n' c')).run Tryz.prog w=.ok (.bool a.isNone) w:=fun w a n c n' c'=>Lib.run_eql_slice_nil w _ _ a n c n' c' Tryz.underlying32
 have A:Aside (∀ (i:Nat) x,l[i]? = some x->w.cell? (a.add i)=some (.int .u8 x)):=hc
 clear hc
 go_enter Tryz.func66,Tryz.ntmps66
 go_wp2_with (at_builtin;refine wpList_append_own _ rfl _ _ 32 rfl w.heap.size 5 i0 (.int .u8 0) 1 1 Tryz.underlying32 hi hz0 hz1 hz2 rfl (by decide) _ _ _ rfl (World.ownsRow_made w #[] 0 (Nat.le_refl _) (Nat.zero_le _) rfl) a n c (l.map (Value.int .u8)) rfl ?qc1 ?qc2 ?qc3 ?qc4 ?qc5 ?qc6 ?_)
 case qc1=>simp;omega
 case qc2=>
  intro j u hj
  rw [List.getElem?_map] at hj
  obtain ⟨x,hx,rfl⟩:=Option.map_eq_some_iff.1 hj
  exact Lib.cell?_alloc_some _ (A.out j x hx)
 case qc3=>intro u hu;obtain ⟨x,_,rfl⟩:=List.mem_map.1 hu;rfl
 case qc4=>unfold maxLen;omega
 case qc5=>omega
 case qc6=>simp
 intro v' w1 hown hgrow hnil
 go_wp2
 go_ret
 exact ⟨v',rfl,by simpa using hown,((Below.refl _ w).alloc (Nat.le_refl _) _).grown hgrow (by simp) (by intro k hk;simp [Value.ownBlock] at hk;omega)⟩
set_option maxHeartbeats 4000000 in
theorem bcl_nil (n c:Nat) (w:World):Calls Tryz.prog 66 #[.slice none n c] w fun e w'=>e=.returned (.slice none 0 0) /\ w'=w:=by
 have q22:∀ (w:World) (a:Option Addr) (n c n' c':Nat),(binOp .eql 32 (.slice a n c) (.slice none n' c')).run Tryz.prog w=.ok (.bool a.isNone) w:=fun w a n c n' c'=>Lib.run_eql_slice_nil w _ _ a n c n' c' Tryz.underlying32
 go_enter Tryz.func66,Tryz.ntmps66
 go_wp2
 go_ret
 exact ⟨rfl,rfl⟩
theorem F_bytes_Clone_sound {T:Tab}:SoundFn Tryz.prog T 66 F_bytes_Clone_sig ⟨F_bytes_Clone⟩:=by
 refine sound_of rfl fun F g O xs ls y tmf w args hT hw hlim hls happ hsz hr=>?_
 obtain ⟨(l:List Int),xs',rfl,h2⟩:=appF_inv_c (ts:=[]) happ
 obtain ⟨rfl,h3⟩:=appF_inv_n h2
 have hls':some [Leaf.d (.sl (.int .u8)) l]=some ls:=hls
 injection hls' with hls'
 subst hls'
 obtain ⟨a,n,c,e0,e1,e2,e3,e4,e5,e6⟩:=rel_ints (hr 0)
 rw [args_1 hsz,e0]
 have h3:cond (Nat.ble l.length 100000000) (some l) none=some y:=h3
 cases hb:Nat.ble l.length 100000000 with
 | false=>rw [hb] at h3;cases h3
 | true=>
  rw [hb] at h3
  have hy:l=y:=by injection h3
  have hb:=Nat.le_of_ble_eq_true hb
  subst hy
  cases a with
  | none=>
   have hl:=e6 rfl
   refine (bcl_nil n c w).mono ?_
   rintro e w' ⟨rfl,rfl⟩
   exact own_row (l:=l) hw hlim (Below.refl _ _) (by rw [hl];exact World.ownsRow_nil _ _ _ _) e4 rfl rfl
  | some ad=>
   refine (bcl_at ad n c l w e1 (by omega) (e5 ad rfl)).mono ?_
   rintro e w' ⟨v,rfl,h1,h2⟩
   exact own_row (l:=l) hw hlim h2 (by rw [e1];exact h1) e4 rfl rfl
def fieldT:Ty:=.pr .str (.pr .str .bool)
def fieldZ:Value:=.agg #[.string ⟨#[]⟩,.string ⟨#[]⟩,.bool false]
theorem infoF:(Tryz.prog.info? 26).map (fun i=>(i.zero,i.size,i.bytes))=some (some fieldZ,3,40):=by kernel_rfl
set_option maxHeartbeats 4000000 in
set_option maxRecDepth 1000000 in
theorem clf_at (a:Addr) (n c:Nat) (news:List Value) (w:World) (hl:news.length=n*3) (hbig:n<=1000000) (hc:∀ j u,news[j]? = some u->w.cell? (a.add j)=some u) (h1:∀ u∈news,u.oneCell'=true) :
  Calls Tryz.prog 153 #[.slice (some a) n c] w fun e w'=>∃ v',e=.returned v' /\ w'.ownsRow w.heap.size 26 3 v' n news /\ Below w.heap.size w w':=by
 obtain ⟨i0,hi,hz0,hz1,hz2⟩:=info_parts infoF
 have q22:∀ (w:World) (a:Option Addr) (n c n' c':Nat),(binOp .eql 22 (.slice a n c) (.slice none n' c')).run Tryz.prog w=.ok (.bool a.isNone) w:=fun w a n c n' c'=>Lib.run_eql_slice_nil w _ _ a n c n' c' Tryz.underlying22
 have A:Aside (∀ j u,news[j]? = some u->w.cell? (a.add j)=some u):=hc
 have B:Aside (∀ u∈news,u.oneCell'=true):=h1
 clear hc h1
 go_enter Tryz.func153,Tryz.ntmps153
 go_wp2_with (at_builtin;refine wpList_append_own _ rfl _ _ 22 rfl w.heap.size 26 i0 fieldZ 3 40 Tryz.underlying22 hi hz0 hz1 hz2 rfl (by decide) _ _ _ rfl (World.ownsRow_made w #[] 0 (Nat.le_refl _) (Nat.zero_le _) rfl) a n c news rfl ?qc1 ?qc2 ?qc3 ?qc4 ?qc5 ?qc6 ?_)
 case qc1=>exact hl
 case qc2=>
  intro j u hj
  exact Lib.cell?_alloc_some _ (A.out j u hj)
 case qc3=>exact B.out
 case qc4=>unfold maxLen;omega
 case qc5=>omega
 case qc6=>simp
 intro v' w1 hown hgrow hnil
 go_wp2
 go_ret
 exact ⟨v',rfl,by simpa using hown,((Below.refl _ w).alloc (Nat.le_refl _) _).grown hgrow (by simp) (by intro k hk;simp [Value.ownBlock] at hk;omega)⟩
set_option maxHeartbeats 4000000 in
theorem clf_nil (n c:Nat) (w:World):Calls Tryz.prog 153 #[.slice none n c] w fun e w'=>e=.returned (.slice none 0 0) /\ w'=w:=by
 have q22:∀ (w:World) (a:Option Addr) (n c n' c':Nat),(binOp .eql 22 (.slice a n c) (.slice none n' c')).run Tryz.prog w=.ok (.bool a.isNone) w:=fun w a n c n' c'=>Lib.run_eql_slice_nil w _ _ a n c n' c' Tryz.underlying22
 go_enter Tryz.func153,Tryz.ntmps153
 go_wp2
 go_ret
 exact ⟨rfl,rfl⟩
theorem F_slices_Clone_stat_Field_stat_Field_sound {T:Tab}:SoundFn Tryz.prog T 153 F_slices_Clone_stat_Field_stat_Field_sig ⟨F_slices_Clone_stat_Field_stat_Field⟩:=by
 refine sound_of rfl fun F g O xs ls y tmf w args hT hw hlim hls happ hsz hr=>?_
 obtain ⟨(l:List fieldT.D),xs',rfl,h2⟩:=appF_inv_c (ts:=[]) happ
 obtain ⟨rfl,h3⟩:=appF_inv_n h2
 have hls':some [Leaf.d (.sl fieldT) l]=some ls:=hls
 injection hls' with hls'
 subst hls'
 obtain ⟨a,n,c,e0,e1,e2,e3,e4⟩:=rel_leaf.1 (hr 0)
 have hrep:RepD w g.C (.sl fieldT) l [.slice a n c]:=⟨a,n,c,rfl,e1,e2,e3,e4⟩
 have e0:args.getD 0 undef=.slice a n c:=by injection e0
 rw [args_1 hsz,e0]
 have h3:cond (Nat.ble l.length 1000000) (some l) none=some y:=h3
 cases hb:Nat.ble l.length 1000000 with
 | false=>rw [hb] at h3;cases h3
 | true=>
  rw [hb] at h3
  have hy:l=y:=by injection h3
  have hb:=Nat.le_of_ble_eq_true hb
  subst hy
  cases a with
  | none=>
   have hl:l=[]:=by
    cases l with
    | nil=>rfl
    | cons x r=>
     obtain ⟨ad,us,q,_⟩:=e4 0 x rfl
     cases q
   subst hl
   refine (clf_nil n c w).mono ?_
   rintro e w' ⟨rfl,rfl⟩
   exact own_nil hlim (Below.refl _ _) rfl rfl
  | some ad=>
   obtain ⟨news,n1,n2,n3,n4⟩:=slice_cells (e:=fieldT) (by decide) hrep
   refine (clf_at ad n c news w (by rw [n1,e1];rfl) (by omega) n2 n3).mono ?_
   rintro e w' ⟨v,rfl,hrow,hbel⟩
   obtain ⟨h0,⟨rfl,hn⟩ | ⟨b,cap,cur,rfl,k2,k3,k4,k5,k6,k7⟩⟩:=hrow
   ·have hl:l=[]:=List.eq_nil_of_length_eq_zero (by omega)
    subst hl
    exact own_nil hlim hbel rfl rfl
   ·subst e1
    refine own_out (e:=fieldT) (l:=l) hw hlim hbel k2 k3 k4 k5 k6 (fun i x hx=>?_) rfl rfl
    have hin:i < l.length:=(List.getElem?_eq_some_iff.1 hx).1
    have r1:=n4 i x hx
    have r2:RepD w' ⟨fun b' o=>g.C b' o \/ (b'=b /\ o < l.length*fieldT.size),g.C.i⟩ fieldT x ((news.drop (i*fieldT.size)).take fieldT.size):=RepD.gw (C:=g.C) (C':=⟨fun b' o=>g.C b' o \/ (b'=b /\ o < l.length*fieldT.size),g.C.i⟩) ⟨fun a u hu hC=>⟨by rw [hbel.cell (cell_lt hu)];exact hu,(by show g.C.c _ _ \/ _;exact Or.inl hC)⟩,fun _ _ _ q=>q⟩ r1
    have e7:(cur.toList.drop (i*fieldT.size)).take fieldT.size=(news.drop (i*fieldT.size)).take fieldT.size:=by
     show (cur.toList.drop (i*3)).take 3=(news.drop (i*3)).take 3
     rw [<-k7,List.drop_take,List.take_take]
     congr 1
     omega
    rw [e7]
    exact r2
def growRen:Go.Shelf.Ren:=⟨fun | 4=>114 | n=>n,fun | 22=>32 | 25=>5 | n=>n,fun n=>n⟩
theorem growLays:Lays8.n4 Tryz.prog growRen:={
 mixed:=by kernel_rfl
 f4 := ⟨"slices.Grow[[]byte,byte]", by decide, Tryz.func114.trans (congrArg some (by kernel_rfl))⟩
 t0:=Tryz.underlying0
 a0:=Tryz.isAgg0
 z0:=Tryz.sizeOf0
 v0:=Tryz.zeroValue0
 t3:=Tryz.underlying3
 a3:=Tryz.isAgg3
 z3:=Tryz.sizeOf3
 v3:=Tryz.zeroValue3
 t4:=Tryz.underlying4
 a4:=Tryz.isAgg4
 z4:=Tryz.sizeOf4
 v4:=Tryz.zeroValue4
 t9:=Tryz.underlying9
 a9:=Tryz.isAgg9
 z9:=Tryz.sizeOf9
 v9:=Tryz.zeroValue9
 t20:=Tryz.underlying20
 a20:=Tryz.isAgg20
 z20:=Tryz.sizeOf20
 v20:=Tryz.zeroValue20
 t22:=Tryz.underlying32
 a22:=Tryz.isAgg32
 z22:=Tryz.sizeOf32
 v22:=Tryz.zeroValue32 }
theorem grow_nil (n:Nat) (hn:n<=1000000000) (w:World) :
  Calls Tryz.prog 114 #[.slice none 0 0,.int .i64 n] w fun e w'=>∃ v,e=.returned v /\ w'.ownsRow w.heap.size 5 1 v 0 [] /\ Below w.heap.size w w':=by
 obtain ⟨i0,hi,hz0,hz1,hz2⟩:=info_parts infoU
 by_cases h0:n=0
 ·subst h0
  refine (Any8.slices_Grow_room growLays none 0 0 0 w (Nat.le_refl _) (by omega) (by omega) (Nat.le_refl _)).mono ?_
  rintro e w' ⟨rfl,rfl⟩
  exact ⟨_,rfl,World.ownsRow_nil _ _ _ _,Below.refl _ _⟩
 ·refine (Any8.slices_Grow_grow growLays i0 (.int .u8 0) hi hz0 (by rw [hz1];decide) none 0 0 n [] w (Nat.le_refl _) (by omega) (by rw [hz2];omega) (by omega) (by simp) (fun _=>rfl) (fun a h=>by cases h)).mono ?_
  rintro e w' ⟨rfl,rfl⟩
  have hge:=grownCap_ge w (0+n) 0 5
  have hle:=grownCap_le_maxLen w (0+n) 0 5 (by unfold maxLen;omega)
  refine ⟨_,rfl,World.ownsRow_made w.drew _ _ (Nat.le_refl _) hle ?_,((Below.refl _ w).drew).alloc (Nat.le_refl _) _⟩
  have e:(Value.int .u8 0).cells.size=1:=rfl
  show (#[]++Builtin.zeroCells (Value.int .u8 0).cells (0+n - 0)++Builtin.zeroCells (Value.int .u8 0).cells (grownCap w (0+n) 0 5 - (0+n))).size=grownCap w (0+n) 0 5*1
  rw [Array.size_append,Array.size_append,size_zeroCells,size_zeroCells,e]
  simp only [List.size_toArray,List.length_nil]
  omega
def InRowQ (w:World) (a:Option Addr) (L:List (List Int)):Prop:=∀ (i:Nat) l,L[i]? = some l -> ∃ ad b n c,a=some ad /\ w.cell? (ad.add i)=some (.slice b n c) /\ l.length=n /\ (∀ bd,b=some bd -> ∀ (j:Nat) x,l[j]? = some x->w.cell? (bd.add j)=some (.int .u8 x)) /\ (b=none->l=[])
theorem take_flat {L:List (List Int)} {k:Nat} {l:List Int} (h:L[k]? = some l):(L.take (k+1)).flatten=(L.take k).flatten++l:=by
 rw [List.take_add_one,h,List.flatten_append]
 simp
theorem take_flat_le (L:List (List Int)) (k:Nat):(L.take k).flatten.length<=L.flatten.length:=by
 have:L.flatten=(L.take k).flatten++(L.drop k).flatten:=by rw [<-List.flatten_append,List.take_append_drop]
 rw [this,List.length_append];omega
theorem run_app_none {P:Program} {w:World} (base:Nat) (t ty e:TypeId) (i:TypeInfo) (size:Nat) (ht:P.underlying t=some (.slice e)) (hi:P.info? e=some i) (v:Value) (n c:Nat) (xs:List Value) (hown:w.ownsRow base e size v n xs) :
  (Builtin.append_ #[t,t] ty #[v,.slice none 0 c]).run P w=.ok v w:=by
 rcases hown.2 with ⟨rfl,rfl⟩ | ⟨g,cap,cur,rfl,_,_,hnc,_⟩
 ·simp [Builtin.append_,run_underlying ht,sizeOf,typeInfo,hi,Builtin.lenOf,Builtin.firstCells]
 ·simp [Builtin.append_,run_underlying ht,sizeOf,typeInfo,hi,Builtin.lenOf,Builtin.firstCells,hnc,storeCells]
theorem wpList_app_any {P:Program} {w:World} {ops:Array Oper} {rest:List Oper} {o:Oper} {a:Act} {Q:Exit->Act->World->Prop} (hgd:o.guard=none) (s x:Operand) (t:TypeId)
  (ho:o.op=.call { callee:=.builtin .append,args:=#[s,x],argTypes:=#[t,t] }) (base:Nat) (e:TypeId) (i:TypeInfo) (z:Value) (ht:P.underlying t=some (.slice e)) (hi:P.info? e=some i) (hz:i.zero=some z) (hsize:i.size=1) (hby:i.bytes=1) (hzs:z.cells.size=1)
  (v:Value) (n:Nat) (xs:List Value) (hs:a.eval s=v) (hown:w.ownsRow base e 1 v n xs) (b:Option Addr) (m c:Nat) (l:List Int) (hx:a.eval x=.slice b m c) (hl:l.length=m)
  (hin:∀ bd,b=some bd -> ∀ (j:Nat) y,l[j]? = some y->w.cell? (bd.add j)=some (.int .u8 y)) (hnil:b=none->l=[]) (hbytes:n+m<=1000000000) (hbase:base<=w.heap.size)
  (h:∀ v' w',w'.ownsRow base e 1 v' (n+m) (xs++l.map (Value.int .u8))->Below base w w'->wpList P ops Q rest (a.put o.dst v') w'):wpList P ops Q (o::rest) a w:=by
 cases b with
 | none=>
  have hl0:=hnil rfl
  subst hl0
  have hm:m=0:=hl.symm
  subst hm
  refine wpList_plain hgd fun K hK=>?_
  have hrun:=run_app_none (P:=P) (w:=w) base t o.type e i 1 ht hi v n c xs hown
  unfold Oper.wp
  simp [execOp,ho,resolve,invoke,builtin,hs,hx,hrun,Result.andThen]
  exact hK _ _ (h v w (by simpa using hown) (Below.refl _ _))
 | some ad=>
  refine wpList_append_own w hgd s x t ho base e i z 1 1 ht hi hz hsize hby hzs (by omega) v n xs hs hown ad m c (l.map (Value.int .u8)) hx (by rw [List.length_map,hl,Nat.mul_one]) (fun j u hj=>?_) (fun u hu=>?_) (by unfold maxLen;omega) (by omega) hbase fun v' w' h1 h2 _=>h v' w' h1 ((Below.refl _ w).grown h2 hbase fun k hk=>?_)
  ·rw [List.getElem?_map] at hj
   obtain ⟨y,hy,rfl⟩:=Option.map_eq_some_iff.1 hj
   exact hin ad rfl j y hy
  ·obtain ⟨y,_,rfl⟩:=List.mem_map.1 hu
   rfl
  ·rcases hown.2 with ⟨rfl,_⟩ | ⟨b0,cap,cur,rfl,hb0,_⟩
   ·simp [Value.ownBlock] at hk
   ·simp [Value.ownBlock] at hk
    omega
theorem InRowQ.below {w w':World} {a:Option Addr} {L:List (List Int)} (h:InRowQ w a L) (hb:Below w.heap.size w w'):InRowQ w' a L:=fun i l hl=>by
 obtain ⟨ad,b,n,c,h1,h2,h3,h4,h5⟩:=h i l hl
 have keep:∀ {p:Addr} {u:Value},w.cell? p=some u->w'.cell? p=some u:=fun {p u} hp=>by rw [hb.cell (block_lt_of_cell hp)];exact hp
 exact ⟨ad,b,n,c,h1,keep h2,h3,fun bd hbd j x hx=>keep (h4 bd hbd j x hx),h5⟩
set_option maxHeartbeats 8000000 in
set_option maxRecDepth 1000000 in
theorem cat_walk (a:Option Addr) (m c:Nat) (L:List (List Int)) (w:World) (hm:L.length=m) (hm2:m<=100000000) (hb:L.flatten.length<=100000000) (hc:Aside (InRowQ w a L)) :
  Calls Tryz.prog 59 #[.slice a m c] w fun e w'=>∃ v,e=.returned v /\ w'.ownsRow w.heap.size 5 1 v L.flatten.length (L.flatten.map (Value.int .u8)) /\ Below w.heap.size w w':=by
 obtain ⟨i0,hi,hz0,hz1,hz2⟩:=info_parts infoU
 go_enter Tryz.func59,Tryz.ntmps59
 go_wp2
 go_loopw [3,11] (fun s i wr=>wr=w /\ ∃ k:Nat,k<=m /\ i=.int .i64 k /\ s=.int .i64 ((L.take k).flatten.length:Nat)) (fun _ i _=>m - (RowKit.intOf i).toNat)
 case atStart=>exact ⟨rfl,0,Nat.zero_le _,rfl,rfl⟩
 case round=>
  obtain ⟨hwr,k,hk,rfl,rfl⟩:=hrel
  have hwr:=hwr.symm
  subst hwr
  have hle:=take_flat_le L k
  obtain ⟨s,hs⟩:∃ s,(L.take k).flatten.length=s:=⟨_,rfl⟩
  rw [hs] at hle ⊢
  by_cases hlt:k < m
  ·obtain ⟨l,hl⟩:∃ l,L[k]? = some l:=⟨L[k]'(by omega),List.getElem?_eq_getElem (by omega)⟩
   obtain ⟨ad,b,n,c',ha,hcell,hn,_⟩:=hc.out k l hl
   have hs2:(L.take (k+1)).flatten.length=s+n:=by rw [take_flat hl,List.length_append,hs,hn]
   have hle2:=take_flat_le L (k+1)
   rw [hs2] at hle2
   subst ha
   go_wp2
   go_roundw
   case rel=>exact ⟨trivial,k+1,by omega,by simp,by rw [hs2];simp⟩
   case measure=>simp [RowKit.intOf];omega
  ·have hkm:k=m:=by omega
   subst hkm
   have hall:L.take k=L:=List.take_of_length_le (by omega)
   rw [hall] at hs
   go_wp2_with (go_at_call 114;(with_reducible refine (grow_nil s (by omega) _).mono ?_);rintro e w1 ⟨v,rfl,hown,hbel⟩)
   go_loopw [6,27] (fun v i wr=>∃ j:Nat,j<=k /\ i=.int .i64 j /\ wr.ownsRow w.heap.size 5 1 v (L.take j).flatten.length ((L.take j).flatten.map (Value.int .u8)) /\ Below w.heap.size w wr) (fun _ i _=>k - (RowKit.intOf i).toNat)
   case atStart=>exact ⟨0,Nat.zero_le _,rfl,by simpa using hown,hbel⟩
   case round=>
    obtain ⟨j,hj,rfl,hown2,hbel2⟩:=hrel
    by_cases hlt2:j < k
    ·obtain ⟨l,hl⟩:∃ l,L[j]? = some l:=⟨L[j]'(by omega),List.getElem?_eq_getElem (by omega)⟩
     obtain ⟨ad,b,n,c',ha,hcell,hn,hin,hnil⟩:=hc.out j l hl
     subst ha
     have hs2:(L.take (j+1)).flatten=(L.take j).flatten++l:=take_flat hl
     have hle2:=take_flat_le L (j+1)
     rw [hs2,List.length_append,hn] at hle2
     have keep:∀ {p:Addr} {u:Value},w.cell? p=some u->wr.cell? p=some u:=fun {p u} hp=>by rw [hbel2.cell (block_lt_of_cell hp)];exact hp
     have hcell2:=keep hcell
     have B:Aside (Below w.heap.size w wr /\ wr.ownsRow w.heap.size 5 1 u6 (L.take j).flatten.length ((L.take j).flatten.map (Value.int .u8)) /\ (∀ bd,b=some bd -> ∀ (i:Nat) y,l[i]? = some y->wr.cell? (bd.add i)=some (.int .u8 y)) /\ (b=none->l=[]) /\ l.length=n /\ (L.take (j+1)).flatten=(L.take j).flatten++l /\ (L.take j).flatten.length+n<=1000000000):=⟨hbel2,hown2,fun bd hbd i y hy=>keep (hin bd hbd i y hy),hnil,hn,hs2,by omega⟩
     clear hbel2 hown2 hin hnil hs2 hle2 keep hcell hown hbel hs hall
     go_wp2_with (at_builtin;refine wpList_app_any rfl _ _ 32 rfl w.heap.size 5 i0 (.int .u8 0) Tryz.underlying32 hi hz0 hz1 hz2 rfl _ _ _ rfl B.out.2.1 b n c' l rfl B.out.2.2.2.2.1 B.out.2.2.1 B.out.2.2.2.1 B.out.2.2.2.2.2.2 B.out.1.size ?_;intro v2 w2 hown3 hbel3)
     go_roundw
     case rel=>
      refine ⟨j+1,by omega,by simp,?_,B.out.1.trans hbel3⟩
      rw [B.out.2.2.2.2.2.1,List.length_append,List.map_append,B.out.2.2.2.2.1]
      exact hown3
     case measure=>simp [RowKit.intOf];omega
    ·have hjk:j=k:=by omega
     subst hjk
     rw [hall] at hown2
     go_wp2
     go_ret
     rw [hs] at hown2 ⊢
     exact ⟨_,rfl,hown2,hbel2⟩
theorem inRow_of {w:World} {C:Com} {L:List (List Int)} {cs:List Value} (h:RepD w C (.sl (.sl (.int .u8))) L cs):∃ a m c,cs=[.slice a m c] /\ L.length=m /\ InRowQ w a L /\ ∀ l∈L,∀ x∈l,(Lit.int .u8 x).wf=true:=by
 obtain ⟨a,n,c,e0,e1,e2,e3,e4⟩:=h
 have key:∀ (i:Nat) (l:List Int),L[i]? = some l->(∃ ad b n c,a=some ad /\ w.cell? (ad.add i)=some (.slice b n c) /\ l.length=n /\ (∀ bd,b=some bd -> ∀ (j:Nat) x,l[j]? = some x->w.cell? (bd.add j)=some (.int .u8 x)) /\ (b=none->l=[])) /\ ∀ x∈l,(Lit.int .u8 x).wf=true:=fun i l hl=>by
  obtain ⟨ad,us,h1,h2,h3,h4⟩:=e4 i l hl
  obtain ⟨b,n',c',f0,f1,f2,f3,f4,f5,f6⟩:=ints_of h4
  have:=(h3 0 (.slice b n' c') (by rw [f0];rfl)).1
  rw [show (Ty.sl (Ty.int .u8)).size=1 from rfl,Nat.mul_one,Nat.add_zero] at this
  exact ⟨⟨ad,b,n',c',h1,this,f1,f5,f6⟩,f4⟩
 refine ⟨a,n,c,e0,e1,fun i l hl=>(key i l hl).1,fun l hl x hx=>?_⟩
 obtain ⟨i,hi⟩:=List.mem_iff_getElem?.1 hl
 exact (key i l hi).2 x hx
theorem F_slices_Concat_byte_byte_sound {T:Tab}:SoundFn Tryz.prog T 59 F_slices_Concat_byte_byte_sig ⟨F_slices_Concat_byte_byte⟩:=by
 refine sound_of rfl fun F g O xs ls y tmf w args hT hw hlim hls happ hsz hr=>?_
 obtain ⟨(L:List (List Int)),xs',rfl,h2⟩:=appF_inv_c (ts:=[]) happ
 obtain ⟨rfl,h3⟩:=appF_inv_n h2
 have hls':some [Leaf.d (.sl (.sl (.int .u8))) L]=some ls:=hls
 injection hls' with hls'
 subst hls'
 obtain ⟨a,m,c,e0,e1,e2,e3⟩:=inRow_of (rel_leaf.1 (hr 0))
 have e0:args.getD 0 undef=.slice a m c:=by injection e0
 rw [args_1 hsz,e0]
 have h3:cond (Nat.ble L.flatten.length 100000000&&Nat.ble L.length 100000000) (some L.flatten) none=some y:=h3
 cases hb:(Nat.ble L.flatten.length 100000000&&Nat.ble L.length 100000000) with
 | false=>rw [hb] at h3;cases h3
 | true=>
  rw [hb] at h3
  have hy:L.flatten=y:=by injection h3
  rw [Bool.and_eq_true] at hb
  have b1:=Nat.le_of_ble_eq_true hb.1
  have b2:=Nat.le_of_ble_eq_true hb.2
  subst hy
  refine (cat_walk a m c L w e1 (by omega) b1 e2).mono ?_
  rintro e w' ⟨v,rfl,h1,h2⟩
  exact own_row (l:=L.flatten) hw hlim h2 h1 (fun x hx=>by obtain ⟨l,hl,hx⟩:=List.mem_flatten.1 hx;exact e3 l hl x hx) rfl rfl
end Go.Proofs.YtifbhefbhlbofaaGreatDoor
namespace Go.Proofs.YtifbhefbhlbofaaGreatDoor
open Pv
theorem F_stat_Size_sound {T:Tab}:SoundFn Tryz.prog T 158 F_stat_Size_sig ⟨F_stat_Size⟩:=by
 have h:=fn_sound (T:=T) (E:=F_stat_Size_env) (by unfold Env.ok;exact fun p h=>by cases h) (A:=F_stat_Size_ann) (f:=158) (fn:=Tryz.f158) (s:=F_stat_Size_sig) Tryz.func158
 rw [F_stat_Size_text] at h
 exact h
theorem F_dyn_Table_shrinks_sound {T:Tab}:SoundFn Tryz.prog T 152 F_dyn_Table_shrinks_sig ⟨F_dyn_Table_shrinks⟩:=by
 have h:=fn_sound (T:=T) (E:=F_dyn_Table_shrinks_env) (by unfold Env.ok;exact List.forall_mem_cons.2 ⟨F_stat_Size_sound,fun p h=>by cases h⟩) (A:=F_dyn_Table_shrinks_ann) (f:=152) (fn:=Tryz.f152) (s:=F_dyn_Table_shrinks_sig) Tryz.func152
 rw [F_dyn_Table_shrinks_text] at h
 exact h
theorem F_dyn_Table_Limit_sound {T:Tab}:SoundFn Tryz.prog T 108 F_dyn_Table_Limit_sig ⟨F_dyn_Table_Limit⟩:=by
 have h:=fn_sound (T:=T) (E:=F_dyn_Table_Limit_env) (by unfold Env.ok;exact List.forall_mem_cons.2 ⟨F_dyn_Table_shrinks_sound,List.forall_mem_cons.2 ⟨F_slices_Clone_stat_Field_stat_Field_sound,fun p h=>by cases h⟩⟩) (A:=F_dyn_Table_Limit_ann) (f:=108) (fn:=Tryz.f108) (s:=F_dyn_Table_Limit_sig) Tryz.func108
 rw [F_dyn_Table_Limit_text] at h
 exact h
theorem F_dyn_New_sound {T:Tab}:SoundFn Tryz.prog T 56 F_dyn_New_sig ⟨F_dyn_New⟩:=by
 have h:=fn_sound (T:=T) (E:=F_dyn_New_env) (by unfold Env.ok;exact List.forall_mem_cons.2 ⟨F_dyn_Table_Limit_sound,fun p h=>by cases h⟩) (A:=F_dyn_New_ann) (f:=56) (fn:=Tryz.f56) (s:=F_dyn_New_sig) Tryz.func56
 rw [F_dyn_New_text] at h
 exact h
theorem F_unpack_New_sound {T:Tab}:SoundFn Tryz.prog T 13 F_unpack_New_sig ⟨F_unpack_New⟩:=by
 have h:=fn_sound (T:=T) (E:=F_unpack_New_env) (by unfold Env.ok;exact List.forall_mem_cons.2 ⟨F_dyn_New_sound,fun p h=>by cases h⟩) (A:=F_unpack_New_ann) (f:=13) (fn:=Tryz.f13) (s:=F_unpack_New_sig) Tryz.func13
 rw [F_unpack_New_text] at h
 exact h
theorem F_frame_New_sound {T:Tab}:SoundFn Tryz.prog T 19 F_frame_New_sig ⟨F_frame_New⟩:=by
 have h:=fn_sound (T:=T) (E:=F_frame_New_env) (by unfold Env.ok;exact fun p h=>by cases h) (A:=F_frame_New_ann) (f:=19) (fn:=Tryz.f19) (s:=F_frame_New_sig) Tryz.func19
 rw [F_frame_New_text] at h
 exact h
theorem F_sets_First_sound {T:Tab}:SoundFn Tryz.prog T 68 F_sets_First_sig ⟨F_sets_First⟩:=by
 have h:=fn_sound (T:=T) (E:=F_sets_First_env) (by unfold Env.ok;exact fun p h=>by cases h) (A:=F_sets_First_ann) (f:=68) (fn:=Tryz.f68) (s:=F_sets_First_sig) Tryz.func68
 rw [F_sets_First_text] at h
 exact h
theorem F_pack_New_sound {T:Tab}:SoundFn Tryz.prog T 69 F_pack_New_sig ⟨F_pack_New⟩:=by
 have h:=fn_sound (T:=T) (E:=F_pack_New_env) (by unfold Env.ok;exact List.forall_mem_cons.2 ⟨F_dyn_New_sound,fun p h=>by cases h⟩) (A:=F_pack_New_ann) (f:=69) (fn:=Tryz.f69) (s:=F_pack_New_sig) Tryz.func69
 rw [F_pack_New_text] at h
 exact h
theorem F_part_bits_sound {T:Tab}:SoundFn Tryz.prog T 121 F_part_bits_sig ⟨F_part_bits⟩:=by
 have h:=fn_sound (T:=T) (E:=F_part_bits_env) (by unfold Env.ok;exact fun p h=>by cases h) (A:=F_part_bits_ann) (f:=121) (fn:=Tryz.f121) (s:=F_part_bits_sig) Tryz.func121
 rw [F_part_bits_text] at h
 exact h
theorem F_part_Goaway_sound {T:Tab}:SoundFn Tryz.prog T 93 F_part_Goaway_sig ⟨F_part_Goaway⟩:=by
 have h:=fn_sound (T:=T) (E:=F_part_Goaway_env) (by unfold Env.ok;exact List.forall_mem_cons.2 ⟨F_part_bits_sound,fun p h=>by cases h⟩) (A:=F_part_Goaway_ann) (f:=93) (fn:=Tryz.f93) (s:=F_part_Goaway_sig) Tryz.func93
 rw [F_part_Goaway_text] at h
 exact h
theorem F_frame_Put_sound {T:Tab}:SoundFn Tryz.prog T 118 F_frame_Put_sig ⟨F_frame_Put⟩:=by
 have h:=fn_sound (T:=T) (E:=F_frame_Put_env) (by unfold Env.ok;exact fun p h=>by cases h) (A:=F_frame_Put_ann) (f:=118) (fn:=Tryz.f118) (s:=F_frame_Put_sig) Tryz.func118
 rw [F_frame_Put_text] at h
 exact h
theorem F_conn_Conn_puts_sound {T:Tab}:SoundFn Tryz.prog T 120 F_conn_Conn_puts_sig ⟨F_conn_Conn_puts⟩:=by
 have h:=fn_sound (T:=T) (E:=F_conn_Conn_puts_env) (by unfold Env.ok;exact List.forall_mem_cons.2 ⟨F_frame_Put_sound,fun p h=>by cases h⟩) (A:=F_conn_Conn_puts_ann) (f:=120) (fn:=Tryz.f120) (s:=F_conn_Conn_puts_sig) Tryz.func120
 rw [F_conn_Conn_puts_text] at h
 exact h
theorem F_conn_Conn_tells_sound {T:Tab}:SoundFn Tryz.prog T 122 F_conn_Conn_tells_sig ⟨F_conn_Conn_tells⟩:=by
 have h:=fn_sound (T:=T) (E:=F_conn_Conn_tells_env) (by unfold Env.ok;exact fun p h=>by cases h) (A:=F_conn_Conn_tells_ann) (f:=122) (fn:=Tryz.f122) (s:=F_conn_Conn_tells_sig) Tryz.func122
 rw [F_conn_Conn_tells_text] at h
 exact h
theorem F_conn_Conn_dies_sound {T:Tab}:SoundFn Tryz.prog T 72 F_conn_Conn_dies_sig ⟨F_conn_Conn_dies⟩:=by
 have h:=fn_sound (T:=T) (E:=F_conn_Conn_dies_env) (by unfold Env.ok;exact List.forall_mem_cons.2 ⟨F_frame_New_sound,List.forall_mem_cons.2 ⟨F_part_Goaway_sound,List.forall_mem_cons.2 ⟨F_conn_Conn_puts_sound,List.forall_mem_cons.2 ⟨F_conn_Conn_tells_sound,fun p h=>by cases h⟩⟩⟩⟩) (A:=F_conn_Conn_dies_ann) (f:=72) (fn:=Tryz.f72) (s:=F_conn_Conn_dies_sig) Tryz.func72
 rw [F_conn_Conn_dies_text] at h
 exact h
theorem F_conn_Conn_lays_sound {T:Tab}:SoundFn Tryz.prog T 70 F_conn_Conn_lays_sig ⟨F_conn_Conn_lays⟩:=by
 have h:=fn_sound (T:=T) (E:=F_conn_Conn_lays_env) (by unfold Env.ok;exact List.forall_mem_cons.2 ⟨F_conn_Conn_dies_sound,List.forall_mem_cons.2 ⟨F_conn_Conn_puts_sound,fun p h=>by cases h⟩⟩) (A:=F_conn_Conn_lays_ann) (f:=70) (fn:=Tryz.f70) (s:=F_conn_Conn_lays_sig) Tryz.func70
 rw [F_conn_Conn_lays_text] at h
 exact h
theorem F_part_flag_sound {T:Tab}:SoundFn Tryz.prog T 106 F_part_flag_sig ⟨F_part_flag⟩:=by
 have h:=fn_sound (T:=T) (E:=F_part_flag_env) (by unfold Env.ok;exact fun p h=>by cases h) (A:=F_part_flag_ann) (f:=106) (fn:=Tryz.f106) (s:=F_part_flag_sig) Tryz.func106
 rw [F_part_flag_text] at h
 exact h
theorem F_part_Settings_sound {T:Tab}:SoundFn Tryz.prog T 71 F_part_Settings_sig ⟨F_part_Settings⟩:=by
 have h:=fn_sound (T:=T) (E:=F_part_Settings_env) (by unfold Env.ok;exact List.forall_mem_cons.2 ⟨F_part_flag_sound,List.forall_mem_cons.2 ⟨F_part_bits_sound,fun p h=>by cases h⟩⟩) (A:=F_part_Settings_ann) (f:=71) (fn:=Tryz.f71) (s:=F_part_Settings_sig) Tryz.func71
 rw [F_part_Settings_text] at h
 exact h
theorem F_conn_New_sound {T:Tab}:SoundFn Tryz.prog T 25 F_conn_New_sig ⟨F_conn_New⟩:=by
 have h:=fn_sound (T:=T) (E:=F_conn_New_env) (by unfold Env.ok;exact List.forall_mem_cons.2 ⟨F_unpack_New_sound,List.forall_mem_cons.2 ⟨F_frame_New_sound,List.forall_mem_cons.2 ⟨F_sets_First_sound,List.forall_mem_cons.2 ⟨F_pack_New_sound,List.forall_mem_cons.2 ⟨F_conn_Conn_lays_sound,List.forall_mem_cons.2 ⟨F_part_Settings_sound,fun p h=>by cases h⟩⟩⟩⟩⟩⟩) (A:=F_conn_New_ann) (f:=25) (fn:=Tryz.f25) (s:=F_conn_New_sig) Tryz.func25
 rw [F_conn_New_text] at h
 exact h
theorem F_frame_Parser_Feed_sound {T:Tab}:SoundFn Tryz.prog T 20 F_frame_Parser_Feed_sig ⟨F_frame_Parser_Feed⟩:=by
 have h:=fn_sound (T:=T) (E:=F_frame_Parser_Feed_env) (by unfold Env.ok;exact List.forall_mem_cons.2 ⟨F_slices_Concat_byte_byte_sound,fun p h=>by cases h⟩) (A:=F_frame_Parser_Feed_ann) (f:=20) (fn:=Tryz.f20) (s:=F_frame_Parser_Feed_sig) Tryz.func20
 rw [F_frame_Parser_Feed_text] at h
 exact h
theorem F_frame_Parser_Next_sound {T:Tab}:SoundFn Tryz.prog T 22 F_frame_Parser_Next_sig ⟨F_frame_Parser_Next⟩:=by
 have h:=fn_sound (T:=T) (E:=F_frame_Parser_Next_env) (by unfold Env.ok;exact List.forall_mem_cons.2 ⟨F_bytes_Clone_sound,fun p h=>by cases h⟩) (A:=F_frame_Parser_Next_ann) (f:=22) (fn:=Tryz.f22) (s:=F_frame_Parser_Next_sig) Tryz.func22
 rw [F_frame_Parser_Next_text] at h
 exact h
theorem F_conn_Conn_State_sound {T:Tab}:SoundFn Tryz.prog T 38 F_conn_Conn_State_sig ⟨F_conn_Conn_State⟩:=by
 have h:=fn_sound (T:=T) (E:=F_conn_Conn_State_env) (by unfold Env.ok;exact fun p h=>by cases h) (A:=F_conn_Conn_State_ann) (f:=38) (fn:=Tryz.f38) (s:=F_conn_Conn_State_sig) Tryz.func38
 rw [F_conn_Conn_State_text] at h
 exact h
theorem F_part_conn_sound {T:Tab}:SoundFn Tryz.prog T 98 F_part_conn_sig ⟨F_part_conn⟩:=by
 have h:=fn_sound (T:=T) (E:=F_part_conn_env) (by unfold Env.ok;exact fun p h=>by cases h) (A:=F_part_conn_ann) (f:=98) (fn:=Tryz.f98) (s:=F_part_conn_sig) Tryz.func98
 rw [F_part_conn_text] at h
 exact h
theorem F_part_bodied_sound {T:Tab}:SoundFn Tryz.prog T 96 F_part_bodied_sig ⟨F_part_bodied⟩:=by
 have h:=fn_sound (T:=T) (E:=F_part_bodied_env) (by unfold Env.ok;exact List.forall_mem_cons.2 ⟨F_bytes_Clone_sound,List.forall_mem_cons.2 ⟨F_part_conn_sound,fun p h=>by cases h⟩⟩) (A:=F_part_bodied_ann) (f:=96) (fn:=Tryz.f96) (s:=F_part_bodied_sig) Tryz.func96
 rw [F_part_bodied_text] at h
 exact h
theorem F_part_number_sound {T:Tab}:SoundFn Tryz.prog T 102 F_part_number_sig ⟨F_part_number⟩:=by
 have h:=fn_sound (T:=T) (E:=F_part_number_env) (by unfold Env.ok;exact fun p h=>by cases h) (A:=F_part_number_ann) (f:=102) (fn:=Tryz.f102) (s:=F_part_number_sig) Tryz.func102
 rw [F_part_number_text] at h
 exact h
theorem F_part_settings_sound {T:Tab}:SoundFn Tryz.prog T 97 F_part_settings_sig ⟨F_part_settings⟩:=by
 have h:=fn_sound (T:=T) (E:=F_part_settings_env) (by unfold Env.ok;exact List.forall_mem_cons.2 ⟨F_part_conn_sound,List.forall_mem_cons.2 ⟨F_part_number_sound,fun p h=>by cases h⟩⟩) (A:=F_part_settings_ann) (f:=97) (fn:=Tryz.f97) (s:=F_part_settings_sig) Tryz.func97
 rw [F_part_settings_text] at h
 exact h
theorem F_part_whole_sound {T:Tab}:SoundFn Tryz.prog T 99 F_part_whole_sig ⟨F_part_whole⟩:=by
 have h:=fn_sound (T:=T) (E:=F_part_whole_env) (by unfold Env.ok;exact List.forall_mem_cons.2 ⟨F_bytes_Clone_sound,List.forall_mem_cons.2 ⟨F_part_conn_sound,List.forall_mem_cons.2 ⟨F_part_number_sound,fun p h=>by cases h⟩⟩⟩) (A:=F_part_whole_ann) (f:=99) (fn:=Tryz.f99) (s:=F_part_whole_sig) Tryz.func99
 rw [F_part_whole_text] at h
 exact h
theorem F_part_stream_sound {T:Tab}:SoundFn Tryz.prog T 101 F_part_stream_sig ⟨F_part_stream⟩:=by
 have h:=fn_sound (T:=T) (E:=F_part_stream_env) (by unfold Env.ok;exact fun p h=>by cases h) (A:=F_part_stream_ann) (f:=101) (fn:=Tryz.f101) (s:=F_part_stream_sig) Tryz.func101
 rw [F_part_stream_text] at h
 exact h
theorem F_part_update_sound {T:Tab}:SoundFn Tryz.prog T 100 F_part_update_sig ⟨F_part_update⟩:=by
 have h:=fn_sound (T:=T) (E:=F_part_update_env) (by unfold Env.ok;exact List.forall_mem_cons.2 ⟨F_part_conn_sound,List.forall_mem_cons.2 ⟨F_part_stream_sound,List.forall_mem_cons.2 ⟨F_part_number_sound,fun p h=>by cases h⟩⟩⟩) (A:=F_part_update_ann) (f:=100) (fn:=Tryz.f100) (s:=F_part_update_sig) Tryz.func100
 rw [F_part_update_text] at h
 exact h
theorem F_part_Read_sound {T:Tab}:SoundFn Tryz.prog T 48 F_part_Read_sig ⟨F_part_Read⟩:=by
 have h:=fn_sound (T:=T) (E:=F_part_Read_env) (by unfold Env.ok;exact List.forall_mem_cons.2 ⟨F_bytes_Clone_sound,List.forall_mem_cons.2 ⟨F_part_bodied_sound,List.forall_mem_cons.2 ⟨F_part_settings_sound,List.forall_mem_cons.2 ⟨F_part_conn_sound,List.forall_mem_cons.2 ⟨F_part_whole_sound,List.forall_mem_cons.2 ⟨F_part_update_sound,List.forall_mem_cons.2 ⟨F_part_stream_sound,List.forall_mem_cons.2 ⟨F_part_number_sound,fun p h=>by cases h⟩⟩⟩⟩⟩⟩⟩⟩) (A:=F_part_Read_ann) (f:=48) (fn:=Tryz.f48) (s:=F_part_Read_sig) Tryz.func48
 rw [F_part_Read_text] at h
 exact h
theorem F_conn_Conn_misplaced_sound {T:Tab}:SoundFn Tryz.prog T 123 F_conn_Conn_misplaced_sig ⟨F_conn_Conn_misplaced⟩:=by
 have h:=fn_sound (T:=T) (E:=F_conn_Conn_misplaced_env) (by unfold Env.ok;exact fun p h=>by cases h) (A:=F_conn_Conn_misplaced_ann) (f:=123) (fn:=Tryz.f123) (s:=F_conn_Conn_misplaced_sig) Tryz.func123
 rw [F_conn_Conn_misplaced_text] at h
 exact h
theorem F_life_carries_sound {T:Tab}:SoundFn Tryz.prog T 137 F_life_carries_sig ⟨F_life_carries⟩:=by
 have h:=fn_sound (T:=T) (E:=F_life_carries_env) (by unfold Env.ok;exact fun p h=>by cases h) (A:=F_life_carries_ann) (f:=137) (fn:=Tryz.f137) (s:=F_life_carries_sig) Tryz.func137
 rw [F_life_carries_text] at h
 exact h
theorem F_life_ended_sound {T:Tab}:SoundFn Tryz.prog T 138 F_life_ended_sig ⟨F_life_ended⟩:=by
 have h:=fn_sound (T:=T) (E:=F_life_ended_env) (by unfold Env.ok;exact fun p h=>by cases h) (A:=F_life_ended_ann) (f:=138) (fn:=Tryz.f138) (s:=F_life_ended_sig) Tryz.func138
 rw [F_life_ended_text] at h
 exact h
theorem F_life_Send_sound {T:Tab}:SoundFn Tryz.prog T 84 F_life_Send_sig ⟨F_life_Send⟩:=by
 have h:=fn_sound (T:=T) (E:=F_life_Send_env) (by unfold Env.ok;exact List.forall_mem_cons.2 ⟨F_life_carries_sound,List.forall_mem_cons.2 ⟨F_life_ended_sound,fun p h=>by cases h⟩⟩) (A:=F_life_Send_ann) (f:=84) (fn:=Tryz.f84) (s:=F_life_Send_sig) Tryz.func84
 rw [F_life_Send_text] at h
 exact h
theorem F_conn_stream_open_sound {T:Tab}:SoundFn Tryz.prog T 79 F_conn_stream_open_sig ⟨F_conn_stream_open⟩:=by
 have h:=fn_sound (T:=T) (E:=F_conn_stream_open_env) (by unfold Env.ok;exact fun p h=>by cases h) (A:=F_conn_stream_open_ann) (f:=79) (fn:=Tryz.f79) (s:=F_conn_stream_open_sig) Tryz.func79
 rw [F_conn_stream_open_text] at h
 exact h
theorem F_conn_Conn_turns_sound {T:Tab}:SoundFn Tryz.prog T 87 F_conn_Conn_turns_sig ⟨F_conn_Conn_turns⟩:=by
 have h:=fn_sound (T:=T) (E:=F_conn_Conn_turns_env) (by unfold Env.ok;exact List.forall_mem_cons.2 ⟨F_conn_stream_open_sound,fun p h=>by cases h⟩) (A:=F_conn_Conn_turns_ann) (f:=87) (fn:=Tryz.f87) (s:=F_conn_Conn_turns_sig) Tryz.func87
 rw [F_conn_Conn_turns_text] at h
 exact h
theorem F_part_Rst_sound {T:Tab}:SoundFn Tryz.prog T 135 F_part_Rst_sig ⟨F_part_Rst⟩:=by
 have h:=fn_sound (T:=T) (E:=F_part_Rst_env) (by unfold Env.ok;exact List.forall_mem_cons.2 ⟨F_part_bits_sound,fun p h=>by cases h⟩) (A:=F_part_Rst_ann) (f:=135) (fn:=Tryz.f135) (s:=F_part_Rst_sig) Tryz.func135
 rw [F_part_Rst_text] at h
 exact h
theorem F_conn_Conn_resets_sound {T:Tab}:SoundFn Tryz.prog T 81 F_conn_Conn_resets_sig ⟨F_conn_Conn_resets⟩:=by
 have h:=fn_sound (T:=T) (E:=F_conn_Conn_resets_env) (by unfold Env.ok;exact List.forall_mem_cons.2 ⟨F_conn_Conn_State_sound,List.forall_mem_cons.2 ⟨F_conn_Conn_lays_sound,List.forall_mem_cons.2 ⟨F_life_Send_sound,List.forall_mem_cons.2 ⟨F_conn_Conn_turns_sound,List.forall_mem_cons.2 ⟨F_part_Rst_sound,fun p h=>by cases h⟩⟩⟩⟩⟩) (A:=F_conn_Conn_resets_ann) (f:=81) (fn:=Tryz.f81) (s:=F_conn_Conn_resets_sig) Tryz.func81
 rw [F_conn_Conn_resets_text] at h
 exact h
theorem F_conn_Conn_faults_sound {T:Tab}:SoundFn Tryz.prog T 124 F_conn_Conn_faults_sig ⟨F_conn_Conn_faults⟩:=by
 have h:=fn_sound (T:=T) (E:=F_conn_Conn_faults_env) (by unfold Env.ok;exact List.forall_mem_cons.2 ⟨F_conn_Conn_resets_sound,List.forall_mem_cons.2 ⟨F_conn_Conn_tells_sound,fun p h=>by cases h⟩⟩) (A:=F_conn_Conn_faults_ann) (f:=124) (fn:=Tryz.f124) (s:=F_conn_Conn_faults_sig) Tryz.func124
 rw [F_conn_Conn_faults_text] at h
 exact h
theorem F_part_Update_sound {T:Tab}:SoundFn Tryz.prog T 136 F_part_Update_sig ⟨F_part_Update⟩:=by
 have h:=fn_sound (T:=T) (E:=F_part_Update_env) (by unfold Env.ok;exact List.forall_mem_cons.2 ⟨F_part_bits_sound,fun p h=>by cases h⟩) (A:=F_part_Update_ann) (f:=136) (fn:=Tryz.f136) (s:=F_part_Update_sig) Tryz.func136
 rw [F_part_Update_text] at h
 exact h
theorem F_conn_Conn_gives_sound {T:Tab}:SoundFn Tryz.prog T 82 F_conn_Conn_gives_sig ⟨F_conn_Conn_gives⟩:=by
 have h:=fn_sound (T:=T) (E:=F_conn_Conn_gives_env) (by unfold Env.ok;exact List.forall_mem_cons.2 ⟨F_conn_Conn_lays_sound,List.forall_mem_cons.2 ⟨F_part_Update_sound,fun p h=>by cases h⟩⟩) (A:=F_conn_Conn_gives_ann) (f:=82) (fn:=Tryz.f82) (s:=F_conn_Conn_gives_sig) Tryz.func82
 rw [F_conn_Conn_gives_text] at h
 exact h
theorem F_conn_Conn_givesTo_sound {T:Tab}:SoundFn Tryz.prog T 83 F_conn_Conn_givesTo_sig ⟨F_conn_Conn_givesTo⟩:=by
 have h:=fn_sound (T:=T) (E:=F_conn_Conn_givesTo_env) (by unfold Env.ok;exact List.forall_mem_cons.2 ⟨F_conn_Conn_lays_sound,List.forall_mem_cons.2 ⟨F_part_Update_sound,fun p h=>by cases h⟩⟩) (A:=F_conn_Conn_givesTo_ann) (f:=83) (fn:=Tryz.f83) (s:=F_conn_Conn_givesTo_sig) Tryz.func83
 rw [F_conn_Conn_givesTo_text] at h
 exact h
theorem F_life_fault_sound {T:Tab}:SoundFn Tryz.prog T 185 F_life_fault_sig ⟨F_life_fault⟩:=by
 have h:=fn_sound (T:=T) (E:=F_life_fault_env) (by unfold Env.ok;exact fun p h=>by cases h) (A:=F_life_fault_ann) (f:=185) (fn:=Tryz.f185) (s:=F_life_fault_sig) Tryz.func185
 rw [F_life_fault_text] at h
 exact h
theorem F_life_Recv_sound {T:Tab}:SoundFn Tryz.prog T 161 F_life_Recv_sig ⟨F_life_Recv⟩:=by
 have h:=fn_sound (T:=T) (E:=F_life_Recv_env) (by unfold Env.ok;exact List.forall_mem_cons.2 ⟨F_life_carries_sound,List.forall_mem_cons.2 ⟨F_life_ended_sound,List.forall_mem_cons.2 ⟨F_life_fault_sound,fun p h=>by cases h⟩⟩⟩) (A:=F_life_Recv_ann) (f:=161) (fn:=Tryz.f161) (s:=F_life_Recv_sig) Tryz.func161
 rw [F_life_Recv_text] at h
 exact h
theorem F_conn_Conn_data_sound {T:Tab}:SoundFn Tryz.prog T 125 F_conn_Conn_data_sig ⟨F_conn_Conn_data⟩:=by
 have h:=fn_sound (T:=T) (E:=F_conn_Conn_data_env) (by unfold Env.ok;exact List.forall_mem_cons.2 ⟨F_conn_Conn_State_sound,List.forall_mem_cons.2 ⟨F_conn_Conn_dies_sound,List.forall_mem_cons.2 ⟨F_conn_Conn_gives_sound,List.forall_mem_cons.2 ⟨F_conn_Conn_givesTo_sound,List.forall_mem_cons.2 ⟨F_conn_Conn_turns_sound,List.forall_mem_cons.2 ⟨F_conn_Conn_tells_sound,List.forall_mem_cons.2 ⟨F_conn_Conn_faults_sound,List.forall_mem_cons.2 ⟨F_life_Recv_sound,fun p h=>by cases h⟩⟩⟩⟩⟩⟩⟩⟩) (A:=F_conn_Conn_data_ann) (f:=125) (fn:=Tryz.f125) (s:=F_conn_Conn_data_sig) Tryz.func125
 rw [F_conn_Conn_data_text] at h
 exact h
theorem F_pint_ones_sound {T:Tab}:SoundFn Tryz.prog T 159 F_pint_ones_sig ⟨F_pint_ones⟩:=by
 have h:=fn_sound (T:=T) (E:=F_pint_ones_env) (by unfold Env.ok;exact fun p h=>by cases h) (A:=F_pint_ones_ann) (f:=159) (fn:=Tryz.f159) (s:=F_pint_ones_sig) Tryz.func159
 rw [F_pint_ones_text] at h
 exact h
theorem F_pint_Get_sound {T:Tab}:SoundFn Tryz.prog T 155 F_pint_Get_sig ⟨F_pint_Get⟩:=by
 have h:=fn_sound (T:=T) (E:=F_pint_Get_env) (by unfold Env.ok;exact List.forall_mem_cons.2 ⟨F_pint_ones_sound,fun p h=>by cases h⟩) (A:=F_pint_Get_ann) (f:=155) (fn:=Tryz.f155) (s:=F_pint_Get_sig) Tryz.func155
 rw [F_pint_Get_text] at h
 exact h
theorem F_unpack_block_number_sound {T:Tab}:SoundFn Tryz.prog T 110 F_unpack_block_number_sig ⟨F_unpack_block_number⟩:=by
 have h:=fn_sound (T:=T) (E:=F_unpack_block_number_env) (by unfold Env.ok;exact List.forall_mem_cons.2 ⟨F_pint_Get_sound,fun p h=>by cases h⟩) (A:=F_unpack_block_number_ann) (f:=110) (fn:=Tryz.f110) (s:=F_unpack_block_number_sig) Tryz.func110
 rw [F_unpack_block_number_text] at h
 exact h
theorem F_internal_stringslite_Cut_sound {T:Tab}:SoundFn Tryz.prog T 218 F_internal_stringslite_Cut_sig ⟨F_internal_stringslite_Cut⟩:=by
 have h:=fn_sound (T:=T) (E:=F_internal_stringslite_Cut_env) (by unfold Env.ok;exact List.forall_mem_cons.2 ⟨F_internal_stringslite_Index_sound,fun p h=>by cases h⟩) (A:=F_internal_stringslite_Cut_ann) (f:=218) (fn:=Tryz.f218) (s:=F_internal_stringslite_Cut_sig) Tryz.func218
 rw [F_internal_stringslite_Cut_text] at h
 exact h
theorem F_strings_Cut_sound {T:Tab}:SoundFn Tryz.prog T 205 F_strings_Cut_sig ⟨F_strings_Cut⟩:=by
 have h:=fn_sound (T:=T) (E:=F_strings_Cut_env) (by unfold Env.ok;exact List.forall_mem_cons.2 ⟨F_internal_stringslite_Cut_sound,fun p h=>by cases h⟩) (A:=F_strings_Cut_ann) (f:=205) (fn:=Tryz.f205) (s:=F_strings_Cut_sig) Tryz.func205
 rw [F_strings_Cut_text] at h
 exact h
theorem F_stat_split_sound {T:Tab}:SoundFn Tryz.prog T 182 F_stat_split_sig ⟨F_stat_split⟩:=by
 have h:=fn_sound (T:=T) (E:=F_stat_split_env) (by unfold Env.ok;exact List.forall_mem_cons.2 ⟨F_strings_Cut_sound,fun p h=>by cases h⟩) (A:=F_stat_split_ann) (f:=182) (fn:=Tryz.f182) (s:=F_stat_split_sig) Tryz.func182
 rw [F_stat_split_text] at h
 exact h
theorem F_stat_Get_sound {T:Tab} (h_maxlen:has_maxlen T):SoundFn Tryz.prog T 156 F_stat_Get_sig ⟨F_stat_Get⟩:=by
 have h:=fn_sound (T:=T) (E:=F_stat_Get_env) (by unfold Env.ok;exact List.forall_mem_cons.2 ⟨F_stat_split_sound,List.forall_mem_cons.2 ⟨F_strings_Split_sound h_maxlen,fun p h=>by cases h⟩⟩) (A:=F_stat_Get_ann) (f:=156) (fn:=Tryz.f156) (s:=F_stat_Get_sig) Tryz.func156
 rw [F_stat_Get_text] at h
 exact h
theorem F_dyn_Table_Get_sound {T:Tab}:SoundFn Tryz.prog T 157 F_dyn_Table_Get_sig ⟨F_dyn_Table_Get⟩:=by
 have h:=fn_sound (T:=T) (E:=F_dyn_Table_Get_env) (by unfold Env.ok;exact fun p h=>by cases h) (A:=F_dyn_Table_Get_ann) (f:=157) (fn:=Tryz.f157) (s:=F_dyn_Table_Get_sig) Tryz.func157
 rw [F_dyn_Table_Get_text] at h
 exact h
theorem F_unpack_block_at_sound {T:Tab} (h_maxlen:has_maxlen T):SoundFn Tryz.prog T 111 F_unpack_block_at_sig ⟨F_unpack_block_at⟩:=by
 have h:=fn_sound (T:=T) (E:=F_unpack_block_at_env) (by unfold Env.ok;exact List.forall_mem_cons.2 ⟨F_stat_Get_sound h_maxlen,List.forall_mem_cons.2 ⟨F_dyn_Table_Get_sound,fun p h=>by cases h⟩⟩) (A:=F_unpack_block_at_ann) (f:=111) (fn:=Tryz.f111) (s:=F_unpack_block_at_sig) Tryz.func111
 rw [F_unpack_block_at_text] at h
 exact h
theorem F_unpack_block_text_sound {T:Tab}:SoundFn Tryz.prog T 154 F_unpack_block_text_sig ⟨F_unpack_block_text⟩:=by
 have h:=fn_sound (T:=T) (E:=F_unpack_block_text_env) (by unfold Env.ok;exact List.forall_mem_cons.2 ⟨F_unpack_block_number_sound,fun p h=>by cases h⟩) (A:=F_unpack_block_text_ann) (f:=154) (fn:=Tryz.f154) (s:=F_unpack_block_text_sig) Tryz.func154
 rw [F_unpack_block_text_text] at h
 exact h
theorem F_unpack_block_literal_sound {T:Tab} (h_maxlen:has_maxlen T):SoundFn Tryz.prog T 109 F_unpack_block_literal_sig ⟨F_unpack_block_literal⟩:=by
 have h:=fn_sound (T:=T) (E:=F_unpack_block_literal_env) (by unfold Env.ok;exact List.forall_mem_cons.2 ⟨F_unpack_block_number_sound,List.forall_mem_cons.2 ⟨F_unpack_block_at_sound h_maxlen,List.forall_mem_cons.2 ⟨F_unpack_block_text_sound,fun p h=>by cases h⟩⟩⟩) (A:=F_unpack_block_literal_ann) (f:=109) (fn:=Tryz.f109) (s:=F_unpack_block_literal_sig) Tryz.func109
 rw [F_unpack_block_literal_text] at h
 exact h
theorem F_dyn_Table_Add_sound {T:Tab}:SoundFn Tryz.prog T 112 F_dyn_Table_Add_sig ⟨F_dyn_Table_Add⟩:=by
 have h:=fn_sound (T:=T) (E:=F_dyn_Table_Add_env) (by unfold Env.ok;exact List.forall_mem_cons.2 ⟨F_dyn_Table_shrinks_sound,List.forall_mem_cons.2 ⟨F_stat_Size_sound,fun p h=>by cases h⟩⟩) (A:=F_dyn_Table_Add_ann) (f:=112) (fn:=Tryz.f112) (s:=F_dyn_Table_Add_sig) Tryz.func112
 rw [F_dyn_Table_Add_text] at h
 exact h
theorem F_unpack_block_keep_sound {T:Tab}:SoundFn Tryz.prog T 113 F_unpack_block_keep_sig ⟨F_unpack_block_keep⟩:=by
 have h:=fn_sound (T:=T) (E:=F_unpack_block_keep_env) (by unfold Env.ok;exact List.forall_mem_cons.2 ⟨F_stat_Size_sound,fun p h=>by cases h⟩) (A:=F_unpack_block_keep_ann) (f:=113) (fn:=Tryz.f113) (s:=F_unpack_block_keep_sig) Tryz.func113
 rw [F_unpack_block_keep_text] at h
 exact h
theorem F_unpack_block_read_sound {T:Tab} (h_maxlen:has_maxlen T):SoundFn Tryz.prog T 58 F_unpack_block_read_sig ⟨F_unpack_block_read⟩:=by
 have h:=fn_sound (T:=T) (E:=F_unpack_block_read_env) (by unfold Env.ok;exact List.forall_mem_cons.2 ⟨F_dyn_Table_Limit_sound,List.forall_mem_cons.2 ⟨F_unpack_block_literal_sound h_maxlen,List.forall_mem_cons.2 ⟨F_unpack_block_number_sound,List.forall_mem_cons.2 ⟨F_unpack_block_at_sound h_maxlen,List.forall_mem_cons.2 ⟨F_dyn_Table_Add_sound,List.forall_mem_cons.2 ⟨F_unpack_block_keep_sound,fun p h=>by cases h⟩⟩⟩⟩⟩⟩) (A:=F_unpack_block_read_ann) (f:=58) (fn:=Tryz.f58) (s:=F_unpack_block_read_sig) Tryz.func58
 rw [F_unpack_block_read_text] at h
 exact h
theorem F_unpack_Dec_Decode_sound {T:Tab} (h_maxlen:has_maxlen T):SoundFn Tryz.prog T 14 F_unpack_Dec_Decode_sig ⟨F_unpack_Dec_Decode⟩:=by
 have h:=fn_sound (T:=T) (E:=F_unpack_Dec_Decode_env) (by unfold Env.ok;exact List.forall_mem_cons.2 ⟨F_slices_Clone_byte_byte_sound,List.forall_mem_cons.2 ⟨F_unpack_block_read_sound h_maxlen,fun p h=>by cases h⟩⟩) (A:=F_unpack_Dec_Decode_ann) (f:=14) (fn:=Tryz.f14) (s:=F_unpack_Dec_Decode_sig) Tryz.func14
 rw [F_unpack_Dec_Decode_text] at h
 exact h
theorem F_conn_Conn_begins_sound {T:Tab}:SoundFn Tryz.prog T 186 F_conn_Conn_begins_sig ⟨F_conn_Conn_begins⟩:=by
 have h:=fn_sound (T:=T) (E:=F_conn_Conn_begins_env) (by unfold Env.ok;exact List.forall_mem_cons.2 ⟨F_conn_Conn_turns_sound,fun p h=>by cases h⟩) (A:=F_conn_Conn_begins_ann) (f:=186) (fn:=Tryz.f186) (s:=F_conn_Conn_begins_sig) Tryz.func186
 rw [F_conn_Conn_begins_text] at h
 exact h
theorem F_conn_Conn_ends_sound {T:Tab} (h_maxlen:has_maxlen T):SoundFn Tryz.prog T 162 F_conn_Conn_ends_sig ⟨F_conn_Conn_ends⟩:=by
 have h:=fn_sound (T:=T) (E:=F_conn_Conn_ends_env) (by unfold Env.ok;exact List.forall_mem_cons.2 ⟨F_unpack_Dec_Decode_sound h_maxlen,List.forall_mem_cons.2 ⟨F_conn_Conn_State_sound,List.forall_mem_cons.2 ⟨F_conn_Conn_lays_sound,List.forall_mem_cons.2 ⟨F_conn_Conn_dies_sound,List.forall_mem_cons.2 ⟨F_conn_Conn_turns_sound,List.forall_mem_cons.2 ⟨F_conn_Conn_tells_sound,List.forall_mem_cons.2 ⟨F_conn_Conn_faults_sound,List.forall_mem_cons.2 ⟨F_part_Rst_sound,List.forall_mem_cons.2 ⟨F_life_Recv_sound,List.forall_mem_cons.2 ⟨F_conn_Conn_begins_sound,fun p h=>by cases h⟩⟩⟩⟩⟩⟩⟩⟩⟩⟩) (A:=F_conn_Conn_ends_ann) (f:=162) (fn:=Tryz.f162) (s:=F_conn_Conn_ends_sig) Tryz.func162
 rw [F_conn_Conn_ends_text] at h
 exact h
theorem F_conn_Conn_goesOn_sound {T:Tab} (h_maxlen:has_maxlen T):SoundFn Tryz.prog T 127 F_conn_Conn_goesOn_sig ⟨F_conn_Conn_goesOn⟩:=by
 have h:=fn_sound (T:=T) (E:=F_conn_Conn_goesOn_env) (by unfold Env.ok;exact List.forall_mem_cons.2 ⟨F_conn_Conn_dies_sound,List.forall_mem_cons.2 ⟨F_conn_Conn_ends_sound h_maxlen,fun p h=>by cases h⟩⟩) (A:=F_conn_Conn_goesOn_ann) (f:=127) (fn:=Tryz.f127) (s:=F_conn_Conn_goesOn_sig) Tryz.func127
 rw [F_conn_Conn_goesOn_text] at h
 exact h
theorem F_conn_Conn_headers_sound {T:Tab} (h_maxlen:has_maxlen T):SoundFn Tryz.prog T 126 F_conn_Conn_headers_sig ⟨F_conn_Conn_headers⟩:=by
 have h:=fn_sound (T:=T) (E:=F_conn_Conn_headers_env) (by unfold Env.ok;exact List.forall_mem_cons.2 ⟨F_conn_Conn_Open_sound,List.forall_mem_cons.2 ⟨F_conn_Conn_State_sound,List.forall_mem_cons.2 ⟨F_conn_Conn_dies_sound,List.forall_mem_cons.2 ⟨F_conn_Conn_goesOn_sound h_maxlen,List.forall_mem_cons.2 ⟨F_life_Recv_sound,fun p h=>by cases h⟩⟩⟩⟩⟩) (A:=F_conn_Conn_headers_ann) (f:=126) (fn:=Tryz.f126) (s:=F_conn_Conn_headers_sig) Tryz.func126
 rw [F_conn_Conn_headers_text] at h
 exact h
theorem F_conn_Conn_rst_sound {T:Tab}:SoundFn Tryz.prog T 128 F_conn_Conn_rst_sig ⟨F_conn_Conn_rst⟩:=by
 have h:=fn_sound (T:=T) (E:=F_conn_Conn_rst_env) (by unfold Env.ok;exact List.forall_mem_cons.2 ⟨F_conn_Conn_State_sound,List.forall_mem_cons.2 ⟨F_conn_Conn_dies_sound,List.forall_mem_cons.2 ⟨F_conn_Conn_turns_sound,List.forall_mem_cons.2 ⟨F_conn_Conn_tells_sound,List.forall_mem_cons.2 ⟨F_life_Recv_sound,fun p h=>by cases h⟩⟩⟩⟩⟩) (A:=F_conn_Conn_rst_ann) (f:=128) (fn:=Tryz.f128) (s:=F_conn_Conn_rst_sig) Tryz.func128
 rw [F_conn_Conn_rst_text] at h
 exact h
theorem F_conn_Conn_windows_sound {T:Tab}:SoundFn Tryz.prog T 90 F_conn_Conn_windows_sig ⟨F_conn_Conn_windows⟩:=by
 have h:=fn_sound (T:=T) (E:=F_conn_Conn_windows_env) (by unfold Env.ok;exact List.forall_mem_cons.2 ⟨F_flow_Windows_sound,fun p h=>by cases h⟩) (A:=F_conn_Conn_windows_ann) (f:=90) (fn:=Tryz.f90) (s:=F_conn_Conn_windows_sig) Tryz.func90
 rw [F_conn_Conn_windows_text] at h
 exact h
theorem F_sets_wrong_sound {T:Tab}:SoundFn Tryz.prog T 187 F_sets_wrong_sig ⟨F_sets_wrong⟩:=by
 have h:=fn_sound (T:=T) (E:=F_sets_wrong_env) (by unfold Env.ok;exact fun p h=>by cases h) (A:=F_sets_wrong_ann) (f:=187) (fn:=Tryz.f187) (s:=F_sets_wrong_sig) Tryz.func187
 rw [F_sets_wrong_text] at h
 exact h
theorem F_sets_Apply_sound {T:Tab}:SoundFn Tryz.prog T 163 F_sets_Apply_sig ⟨F_sets_Apply⟩:=by
 have h:=fn_sound (T:=T) (E:=F_sets_Apply_env) (by unfold Env.ok;exact List.forall_mem_cons.2 ⟨F_sets_wrong_sound,fun p h=>by cases h⟩) (A:=F_sets_Apply_ann) (f:=163) (fn:=Tryz.f163) (s:=F_sets_Apply_sig) Tryz.func163
 rw [F_sets_Apply_text] at h
 exact h
theorem F_pack_Enc_Peer_sound {T:Tab}:SoundFn Tryz.prog T 165 F_pack_Enc_Peer_sig ⟨F_pack_Enc_Peer⟩:=by
 have h:=fn_sound (T:=T) (E:=F_pack_Enc_Peer_env) (by unfold Env.ok;exact List.forall_mem_cons.2 ⟨F_dyn_Table_Limit_sound,fun p h=>by cases h⟩) (A:=F_pack_Enc_Peer_ann) (f:=165) (fn:=Tryz.f165) (s:=F_pack_Enc_Peer_sig) Tryz.func165
 rw [F_pack_Enc_Peer_text] at h
 exact h
theorem F_conn_Conn_settings_sound {T:Tab}:SoundFn Tryz.prog T 129 F_conn_Conn_settings_sig ⟨F_conn_Conn_settings⟩:=by
 have h:=fn_sound (T:=T) (E:=F_conn_Conn_settings_env) (by unfold Env.ok;exact List.forall_mem_cons.2 ⟨F_conn_Conn_Open_sound,List.forall_mem_cons.2 ⟨F_conn_Conn_lays_sound,List.forall_mem_cons.2 ⟨F_part_Settings_sound,List.forall_mem_cons.2 ⟨F_conn_Conn_dies_sound,List.forall_mem_cons.2 ⟨F_conn_Conn_windows_sound,List.forall_mem_cons.2 ⟨F_flow_Stream_sound,List.forall_mem_cons.2 ⟨F_sets_Apply_sound,List.forall_mem_cons.2 ⟨F_flow_Shift_sound,List.forall_mem_cons.2 ⟨F_pack_Enc_Peer_sound,fun p h=>by cases h⟩⟩⟩⟩⟩⟩⟩⟩⟩) (A:=F_conn_Conn_settings_ann) (f:=129) (fn:=Tryz.f129) (s:=F_conn_Conn_settings_sig) Tryz.func129
 rw [F_conn_Conn_settings_text] at h
 exact h
theorem F_conn_Conn_update_sound {T:Tab}:SoundFn Tryz.prog T 130 F_conn_Conn_update_sig ⟨F_conn_Conn_update⟩:=by
 have h:=fn_sound (T:=T) (E:=F_conn_Conn_update_env) (by unfold Env.ok;exact List.forall_mem_cons.2 ⟨F_conn_Conn_State_sound,List.forall_mem_cons.2 ⟨F_conn_Conn_dies_sound,List.forall_mem_cons.2 ⟨F_conn_stream_open_sound,List.forall_mem_cons.2 ⟨F_conn_Conn_windows_sound,List.forall_mem_cons.2 ⟨F_flow_Stream_sound,List.forall_mem_cons.2 ⟨F_flow_Conn_sound,List.forall_mem_cons.2 ⟨F_conn_Conn_faults_sound,List.forall_mem_cons.2 ⟨F_flow_Windows_sound,List.forall_mem_cons.2 ⟨F_life_Recv_sound,List.forall_mem_cons.2 ⟨F_flow_Grant_sound,fun p h=>by cases h⟩⟩⟩⟩⟩⟩⟩⟩⟩⟩) (A:=F_conn_Conn_update_ann) (f:=130) (fn:=Tryz.f130) (s:=F_conn_Conn_update_sig) Tryz.func130
 rw [F_conn_Conn_update_text] at h
 exact h
theorem F_conn_Conn_reads_sound {T:Tab} (h_maxlen:has_maxlen T):SoundFn Tryz.prog T 73 F_conn_Conn_reads_sig ⟨F_conn_Conn_reads⟩:=by
 have h:=fn_sound (T:=T) (E:=F_conn_Conn_reads_env) (by unfold Env.ok;exact List.forall_mem_cons.2 ⟨F_conn_Conn_State_sound,List.forall_mem_cons.2 ⟨F_part_Read_sound,List.forall_mem_cons.2 ⟨F_part_Ping_sound,List.forall_mem_cons.2 ⟨F_conn_Conn_lays_sound,List.forall_mem_cons.2 ⟨F_conn_Conn_dies_sound,List.forall_mem_cons.2 ⟨F_conn_Conn_misplaced_sound,List.forall_mem_cons.2 ⟨F_conn_Conn_faults_sound,List.forall_mem_cons.2 ⟨F_conn_Conn_data_sound,List.forall_mem_cons.2 ⟨F_conn_Conn_headers_sound h_maxlen,List.forall_mem_cons.2 ⟨F_conn_Conn_goesOn_sound h_maxlen,List.forall_mem_cons.2 ⟨F_conn_Conn_rst_sound,List.forall_mem_cons.2 ⟨F_conn_Conn_settings_sound,List.forall_mem_cons.2 ⟨F_conn_Conn_update_sound,fun p h=>by cases h⟩⟩⟩⟩⟩⟩⟩⟩⟩⟩⟩⟩⟩) (A:=F_conn_Conn_reads_ann) (f:=73) (fn:=Tryz.f73) (s:=F_conn_Conn_reads_sig) Tryz.func73
 rw [F_conn_Conn_reads_text] at h
 exact h
theorem F_conn_Conn_Feed_sound {T:Tab} (h_maxlen:has_maxlen T):SoundFn Tryz.prog T 26 F_conn_Conn_Feed_sig ⟨F_conn_Conn_Feed⟩:=by
 have h:=fn_sound (T:=T) (E:=F_conn_Conn_Feed_env) (by unfold Env.ok;exact List.forall_mem_cons.2 ⟨F_frame_Parser_Feed_sound,List.forall_mem_cons.2 ⟨F_frame_Parser_Next_sound,List.forall_mem_cons.2 ⟨F_conn_Conn_dies_sound,List.forall_mem_cons.2 ⟨F_conn_Conn_reads_sound h_maxlen,fun p h=>by cases h⟩⟩⟩⟩) (A:=F_conn_Conn_Feed_ann) (f:=26) (fn:=Tryz.f26) (s:=F_conn_Conn_Feed_sig) Tryz.func26
 rw [F_conn_Conn_Feed_text] at h
 exact h
theorem F_conn_Conn_Dead_sound {T:Tab}:SoundFn Tryz.prog T 27 F_conn_Conn_Dead_sig ⟨F_conn_Conn_Dead⟩:=by
 have h:=fn_sound (T:=T) (E:=F_conn_Conn_Dead_env) (by unfold Env.ok;exact fun p h=>by cases h) (A:=F_conn_Conn_Dead_ann) (f:=27) (fn:=Tryz.f27) (s:=F_conn_Conn_Dead_sig) Tryz.func27
 rw [F_conn_Conn_Dead_text] at h
 exact h
theorem F_conn_Conn_Take_sound {T:Tab}:SoundFn Tryz.prog T 32 F_conn_Conn_Take_sig ⟨F_conn_Conn_Take⟩:=by
 have h:=fn_sound (T:=T) (E:=F_conn_Conn_Take_env) (by unfold Env.ok;exact List.forall_mem_cons.2 ⟨F_slices_Clone_byte_byte_sound,fun p h=>by cases h⟩) (A:=F_conn_Conn_Take_ann) (f:=32) (fn:=Tryz.f32) (s:=F_conn_Conn_Take_sig) Tryz.func32
 rw [F_conn_Conn_Take_text] at h
 exact h
theorem F_wlvref10_num_sound {T:Tab}:SoundFn Tryz.prog T 119 F_wlvref10_num_sig ⟨F_wlvref10_num⟩:=by
 have h:=fn_sound (T:=T) (E:=F_wlvref10_num_env) (by unfold Env.ok;exact fun p h=>by cases h) (A:=F_wlvref10_num_ann) (f:=119) (fn:=Tryz.f119) (s:=F_wlvref10_num_sig) Tryz.func119
 rw [F_wlvref10_num_text] at h
 exact h
theorem F_wlvref10_Put_sound {T:Tab}:SoundFn Tryz.prog T 67 F_wlvref10_Put_sig ⟨F_wlvref10_Put⟩:=by
 have h:=fn_sound (T:=T) (E:=F_wlvref10_Put_env) (by unfold Env.ok;exact List.forall_mem_cons.2 ⟨F_wlvref10_num_sound,fun p h=>by cases h⟩) (A:=F_wlvref10_Put_ann) (f:=67) (fn:=Tryz.f67) (s:=F_wlvref10_Put_sig) Tryz.func67
 rw [F_wlvref10_Put_text] at h
 exact h
theorem F_wlvref10_Settings_sound {T:Tab}:SoundFn Tryz.prog T 80 F_wlvref10_Settings_sig ⟨F_wlvref10_Settings⟩:=by
 have h:=fn_sound (T:=T) (E:=F_wlvref10_Settings_env) (by unfold Env.ok;exact List.forall_mem_cons.2 ⟨F_wlvref10_num_sound,fun p h=>by cases h⟩) (A:=F_wlvref10_Settings_ann) (f:=80) (fn:=Tryz.f80) (s:=F_wlvref10_Settings_sig) Tryz.func80
 rw [F_wlvref10_Settings_text] at h
 exact h
theorem F_wlvlaw23_hello_sound {T:Tab}:SoundFn Tryz.prog T 33 F_wlvlaw23_hello_sig ⟨F_wlvlaw23_hello⟩:=by
 have h:=fn_sound (T:=T) (E:=F_wlvlaw23_hello_env) (by unfold Env.ok;exact List.forall_mem_cons.2 ⟨F_wlvref10_Put_sound,List.forall_mem_cons.2 ⟨F_wlvref10_Settings_sound,fun p h=>by cases h⟩⟩) (A:=F_wlvlaw23_hello_ann) (f:=33) (fn:=Tryz.f33) (s:=F_wlvlaw23_hello_sig) Tryz.func33
 rw [F_wlvlaw23_hello_text] at h
 exact h
theorem F_conn_Conn_Queue_sound {T:Tab}:SoundFn Tryz.prog T 34 F_conn_Conn_Queue_sig ⟨F_conn_Conn_Queue⟩:=by
 have h:=fn_sound (T:=T) (E:=F_conn_Conn_Queue_env) (by unfold Env.ok;exact fun p h=>by cases h) (A:=F_conn_Conn_Queue_ann) (f:=34) (fn:=Tryz.f34) (s:=F_conn_Conn_Queue_sig) Tryz.func34
 rw [F_conn_Conn_Queue_text] at h
 exact h
theorem F_wlvlaw23_first_sound {T:Tab} (h_maxlen:has_maxlen T):SoundFn Tryz.prog T 24 F_wlvlaw23_first_sig ⟨F_wlvlaw23_first⟩:=by
 have h:=fn_sound (T:=T) (E:=F_wlvlaw23_first_env) (by unfold Env.ok;exact List.forall_mem_cons.2 ⟨F_conn_New_sound,List.forall_mem_cons.2 ⟨F_conn_Conn_Feed_sound h_maxlen,List.forall_mem_cons.2 ⟨F_conn_Conn_Dead_sound,List.forall_mem_cons.2 ⟨F_conn_Conn_Take_sound,List.forall_mem_cons.2 ⟨F_wlvlaw23_hello_sound,List.forall_mem_cons.2 ⟨F_conn_Conn_Queue_sound,List.forall_mem_cons.2 ⟨F_wlvref10_Ping_sound,List.forall_mem_cons.2 ⟨F_wlvref10_Put_sound,fun p h=>by cases h⟩⟩⟩⟩⟩⟩⟩⟩) (A:=F_wlvlaw23_first_ann) (f:=24) (fn:=Tryz.f24) (s:=F_wlvlaw23_first_sig) Tryz.func24
 rw [F_wlvlaw23_first_text] at h
 exact h
theorem F_wlvlaw23_framed_sound {T:Tab}:SoundFn Tryz.prog T 35 F_wlvlaw23_framed_sig ⟨F_wlvlaw23_framed⟩:=by
 have h:=fn_sound (T:=T) (E:=F_wlvlaw23_framed_env) (by unfold Env.ok;exact List.forall_mem_cons.2 ⟨F_wlvref10_Put_sound,fun p h=>by cases h⟩) (A:=F_wlvlaw23_framed_ann) (f:=35) (fn:=Tryz.f35) (s:=F_wlvlaw23_framed_sig) Tryz.func35
 rw [F_wlvlaw23_framed_text] at h
 exact h
theorem F_wlvref_Bytes_sound {T:Tab}:SoundFn Tryz.prog T 31 F_wlvref_Bytes_sig ⟨F_wlvref_Bytes⟩:=by
 have h:=fn_sound (T:=T) (E:=F_wlvref_Bytes_env) (by unfold Env.ok;exact fun p h=>by cases h) (A:=F_wlvref_Bytes_ann) (f:=31) (fn:=Tryz.f31) (s:=F_wlvref_Bytes_sig) Tryz.func31
 rw [F_wlvref_Bytes_text] at h
 exact h
theorem F_wlvref4_Same_sound {T:Tab}:SoundFn Tryz.prog T 74 F_wlvref4_Same_sig ⟨F_wlvref4_Same⟩:=by
 have h:=fn_sound (T:=T) (E:=F_wlvref4_Same_env) (by unfold Env.ok;exact fun p h=>by cases h) (A:=F_wlvref4_Same_ann) (f:=74) (fn:=Tryz.f74) (s:=F_wlvref4_Same_sig) Tryz.func74
 rw [F_wlvref4_Same_text] at h
 exact h
theorem F_wlvref23_SameEvents_sound {T:Tab}:SoundFn Tryz.prog T 28 F_wlvref23_SameEvents_sig ⟨F_wlvref23_SameEvents⟩:=by
 have h:=fn_sound (T:=T) (E:=F_wlvref23_SameEvents_env) (by unfold Env.ok;exact List.forall_mem_cons.2 ⟨F_wlvref_Bytes_sound,List.forall_mem_cons.2 ⟨F_wlvref4_Same_sound,fun p h=>by cases h⟩⟩) (A:=F_wlvref23_SameEvents_ann) (f:=28) (fn:=Tryz.f28) (s:=F_wlvref23_SameEvents_sig) Tryz.func28
 rw [F_wlvref23_SameEvents_text] at h
 exact h
theorem F_wlvref4_Put_sound {T:Tab}:SoundFn Tryz.prog T 37 F_wlvref4_Put_sig ⟨F_wlvref4_Put⟩:=by
 have h:=fn_sound (T:=T) (E:=F_wlvref4_Put_env) (by unfold Env.ok;exact fun p h=>by cases h) (A:=F_wlvref4_Put_ann) (f:=37) (fn:=Tryz.f37) (s:=F_wlvref4_Put_sig) Tryz.func37
 rw [F_wlvref4_Put_text] at h
 exact h
theorem F_wlvlaw23_ConnBlocks_sound {T:Tab} (h_maxlen:has_maxlen T):SoundFn Tryz.prog T 6 F_wlvlaw23_ConnBlocks_sig ⟨F_wlvlaw23_ConnBlocks⟩:=by
 have h:=fn_sound (T:=T) (E:=F_wlvlaw23_ConnBlocks_env) (by unfold Env.ok;exact List.forall_mem_cons.2 ⟨F_wlvlaw23_first_sound h_maxlen,List.forall_mem_cons.2 ⟨F_conn_New_sound,List.forall_mem_cons.2 ⟨F_conn_Conn_Feed_sound h_maxlen,List.forall_mem_cons.2 ⟨F_wlvref23_SameEvents_sound,List.forall_mem_cons.2 ⟨F_wlvlaw23_hello_sound,List.forall_mem_cons.2 ⟨F_wlvlaw23_framed_sound,List.forall_mem_cons.2 ⟨F_wlvref4_Put_sound,List.forall_mem_cons.2 ⟨F_conn_Conn_State_sound,fun p h=>by cases h⟩⟩⟩⟩⟩⟩⟩⟩) (A:=F_wlvlaw23_ConnBlocks_ann) (f:=6) (fn:=Tryz.f6) (s:=F_wlvlaw23_ConnBlocks_sig) Tryz.func6
 rw [F_wlvlaw23_ConnBlocks_text] at h
 exact h
end Go.Proofs.YtifbhefbhlbofaaGreatDoor
namespace Go.Proofs.YtifbhefbhlbofaaGreatDoor
namespace Pv
set_option linter.unusedVariables false
section
variable {S R T : Type} {body : S -> Option (R ⊕ S)} {s s' : S} {r r' : R}
theorem iter_uniq:∀ {n m:Nat} {s:S},iterC body n s=some r->iterC body m s=some r'->r=r'
 | 0,_,_,h,_=>by cases h
 | _+1,0,_,_,h=>by cases h
 | n+1,m+1,s,h,k=>by
  unfold iterC at h k
  split at h
  ·cases h
  ·rename_i x hx
   rw [hx] at k
   injection h with h;injection k with k
   exact h.symm.trans k
  ·rename_i x hx
   rw [hx] at k
   exact iter_uniq h k
theorem loop_of_iter {n:Nat} (h:iterC body n s=some r):loopC body s=some r:=by
 unfold loopC
 have hex:∃ r n,iterC body n s=some r:=⟨r,n,h⟩
 rw [dif_pos hex]
 obtain ⟨m,hm⟩:=hex.choose_spec
 rw [iter_uniq hm h]
theorem iter_of_loop' (h:loopC body s=some r):∃ n,iterC body n s=some r:=by
 unfold loopC at h
 split at h
 ·rename_i hex
  injection h with h
  obtain ⟨n,hn⟩:=hex.choose_spec
  exact ⟨n,by rw [hn,h]⟩
 ·cases h
theorem loop_inl (h:body s=some (.inl r)):loopC body s=some r:=loop_of_iter (n:=1) (by unfold iterC;rw [h])
theorem loop_inr (h:body s=some (.inr s')) (k:loopC body s'=some r):loopC body s=some r:=by
 obtain ⟨n,hn⟩:=iter_of_loop' k
 exact loop_of_iter (n:=n+1) (by unfold iterC;rw [h];exact hn)
theorem join_inl {A:Option (R⊕S)} {B:S->Option R} (h:A=some (.inl r)):joinC A B=some r:=by rw [h];rfl
theorem join_inr {A:Option (R⊕S)} {B:S->Option R} (h:A=some (.inr s)):joinC A B=B s:=by rw [h];rfl
theorem wrap_in {x:Int} (h0 : -9223372036854775808<=x) (h1:x<=9223372036854775807):IntKind.i64.wrap x=x:=by
 show (if (true&&decide (x % 18446744073709551616 >= 9223372036854775808))=true then x % 18446744073709551616 - 18446744073709551616 else x % 18446744073709551616)=x
 simp only [Bool.true_and,decide_eq_true_eq]
 split <;> omega
end
end Pv
end Go.Proofs.YtifbhefbhlbofaaGreatDoor
namespace Go.Proofs.YtifbhefbhlbofaaGreatDoor
open Pv
set_option linter.unusedVariables false
theorem wB64 {x:Int} (h0 : -4611686018427387904<=x) (h1:x<=4611686018427387904):IntKind.i64.wrap x=x:=by
 show (if (true&&decide (x % 18446744073709551616 >= 9223372036854775808))=true then x % 18446744073709551616 - 18446744073709551616 else x % 18446744073709551616)=x
 simp only [Bool.true_and,decide_eq_true_eq]
 split <;> omega
theorem e40:(2:Int) ^ 40=1099511627776:=by decide
theorem w40:∀ n:Int,0<=n->n < 2 ^ 40->IntKind.i64.wrap n=n:=fun n h0 h1=>wB64 (by omega) (by rw [e40] at h1;omega)
theorem or8 {x y:Int} (hx:0<=x) (hx1:x < 1099511627776) (hm:x % 256=0) (hy:0<=y) (hy1:y < 256):bits .or .i64 x y=x+y:=
 bits_join .i64 40 (by decide) w40 8 x y hx hm (by rw [e40];exact hx1) hy hy1 (by rw [e40];omega)
theorem or16 {x y:Int} (hx:0<=x) (hx1:x < 1099511627776) (hm:x % 65536=0) (hy:0<=y) (hy1:y < 65536):bits .or .i64 x y=x+y:=
 bits_join .i64 40 (by decide) w40 16 x y hx hm (by rw [e40];exact hx1) hy hy1 (by rw [e40];omega)
theorem or24 {x y:Int} (hx:0<=x) (hx1:x < 1099511627776) (hm:x % 16777216=0) (hy:0<=y) (hy1:y < 16777216):bits .or .i64 x y=x+y:=
 bits_join .i64 40 (by decide) w40 24 x y hx hm (by rw [e40];exact hx1) hy hy1 (by rw [e40];omega)
theorem and31 {x:Int} (hx:0<=x) (hx1:x < 1099511627776):bits .and .i64 x 2147483647=x % 2147483648:=bits_mask .i64 40 (by decide) w40 31 (by decide) x hx (by rw [e40];exact hx1)
theorem num3 {a b c:Int} (ha:0<=a /\ a < 256) (hb:0<=b /\ b < 256) (hc:0<=c /\ c < 256) :
  bits .or .i64 (bits .or .i64 (IntKind.i64.wrap ((IntKind.i64.wrap a)*2 ^ 16)) (IntKind.i64.wrap ((IntKind.i64.wrap b)*2 ^ 8))) (IntKind.i64.wrap c)=a*65536+b*256+c:=by
 have e16:(2:Int) ^ 16=65536:=by decide
 have e8:(2:Int) ^ 8=256:=by decide
 rw [e16,e8,wB64 (x:=a) (by omega) (by omega),wB64 (x:=b) (by omega) (by omega),wB64 (x:=c) (by omega) (by omega),wB64 (x:=a*65536) (by omega) (by omega),wB64 (x:=b*256) (by omega) (by omega),
  or16 (x:=a*65536) (y:=b*256) (by omega) (by omega) (by omega) (by omega) (by omega),or8 (by omega) (by omega) (by omega) (by omega) (by omega)]
theorem num4 {a b c d:Int} (ha:0<=a /\ a < 256) (hb:0<=b /\ b < 256) (hc:0<=c /\ c < 256) (hd:0<=d /\ d < 256) :
  bits .or .i64 (bits .or .i64 (bits .or .i64 (IntKind.i64.wrap ((IntKind.i64.wrap a)*2 ^ 24)) (IntKind.i64.wrap ((IntKind.i64.wrap b)*2 ^ 16))) (IntKind.i64.wrap ((IntKind.i64.wrap c)*2 ^ 8))) (IntKind.i64.wrap d)=a*16777216+b*65536+c*256+d:=by
 have e24:(2:Int) ^ 24=16777216:=by decide
 have e16:(2:Int) ^ 16=65536:=by decide
 have e8:(2:Int) ^ 8=256:=by decide
 rw [e24,e16,e8,wB64 (x:=a) (by omega) (by omega),wB64 (x:=b) (by omega) (by omega),wB64 (x:=c) (by omega) (by omega),wB64 (x:=d) (by omega) (by omega),wB64 (x:=a*16777216) (by omega) (by omega),wB64 (x:=b*65536) (by omega) (by omega),wB64 (x:=c*256) (by omega) (by omega),
  or24 (x:=a*16777216) (y:=b*65536) (by omega) (by omega) (by omega) (by omega) (by omega),or16 (y:=c*256) (by omega) (by omega) (by omega) (by omega) (by omega),or8 (by omega) (by omega) (by omega) (by omega) (by omega)]
def hd9 (n k fl s:Int):List Int:=[n / 65536,n / 256 % 256,n % 256,k,fl,s / 16777216,s / 65536 % 256,s / 256 % 256,s % 256]
def fb (k fl s:Int) (body:List Int):List Int:=hd9 (body.length:Int) k fl s++body
theorem fb_len (k fl s:Int) (body:List Int):(fb k fl s body).length=9+body.length:=by
 unfold fb
 rw [List.length_append];rfl
def okFb (k fl s:Int) (body:List Int):Prop:=(0<=k /\ k < 256) /\ (0<=fl /\ fl < 256) /\ (0<=s /\ s<=2147483647) /\ body.length<=16384
theorem cutI_mid {α:Type} (a b c:List α) {m n:Int} (hm:m=(a.length:Int)) (hn:n=((a.length+b.length:Nat):Int)):cutI (a++b++c) m n=some b:=by
 subst hm;subst hn
 unfold cutI
 rw [decide_eq_true (by omega),decide_eq_true (by omega),decide_eq_true (by simp only [List.length_append];omega)]
 simp only [Bool.and_self,cond_true]
 rw [Int.toNat_natCast,Int.toNat_natCast,show a.length+b.length=(a++b).length by rw [List.length_append],List.take_left,List.drop_left]
theorem cutI_end {α:Type} (a b:List α) {m n:Int} (hm:m=(a.length:Int)) (hn:n=((a++b).length:Int)):cutI (a++b) m n=some b:=by
 have:=cutI_mid a b [] (m:=m) (n:=n) hm (by rw [hn,List.length_append])
 rwa [List.append_nil] at this
variable {p : Int} {Ps : List (Int × List Int)}
theorem next_fb {k fl s:Int} {body rest:List Int} (hp:nnI p=true) (hok:okFb k fl s body) (hg:getI Ps p=some (16384,fb k fl s body++rest)) (hr:rest.length<=1000000000) :
  F_frame_Parser_Next p Ps=some (k,fl,s,body,0,Ps.set p.toNat (16384,rest)):=by
 obtain ⟨hk,hfl,hs,hb⟩:=hok
 obtain ⟨n,hn⟩:∃ n:Int,(body.length:Int)=n:=⟨_,rfl⟩
 have hn0:0<=n /\ n<=16384:=by omega
 have hX:fb k fl s body++rest=hd9 n k fl s++body++rest:=by unfold fb;rw [hn]
 have hlen:((fb k fl s body++rest).length:Int)=9+n+(rest.length:Int):=by rw [List.length_append,fb_len];omega
 have g0:getI (fb k fl s body++rest) 0=some (n / 65536):=by rw [hX];rfl
 have g1:getI (fb k fl s body++rest) 1=some (n / 256 % 256):=by rw [hX];rfl
 have g2:getI (fb k fl s body++rest) 2=some (n % 256):=by rw [hX];rfl
 have g3:getI (fb k fl s body++rest) 3=some k:=by rw [hX];rfl
 have g4:getI (fb k fl s body++rest) 4=some fl:=by rw [hX];rfl
 have g5:getI (fb k fl s body++rest) 5=some (s / 16777216):=by rw [hX];rfl
 have g6:getI (fb k fl s body++rest) 6=some (s / 65536 % 256):=by rw [hX];rfl
 have g7:getI (fb k fl s body++rest) 7=some (s / 256 % 256):=by rw [hX];rfl
 have g8:getI (fb k fl s body++rest) 8=some (s % 256):=by rw [hX];rfl
 have h3:bits .or .i64 (bits .or .i64 (IntKind.i64.wrap ((IntKind.i64.wrap (n / 65536))*2 ^ 16)) (IntKind.i64.wrap ((IntKind.i64.wrap (n / 256 % 256))*2 ^ 8))) (IntKind.i64.wrap (n % 256))=n:=by
  rw [num3 (by omega) (by omega) (by omega)];omega
 have h4:bits .and .i64 (bits .or .i64 (bits .or .i64 (bits .or .i64 (IntKind.i64.wrap ((IntKind.i64.wrap (s / 16777216))*2 ^ 24)) (IntKind.i64.wrap ((IntKind.i64.wrap (s / 65536 % 256))*2 ^ 16))) (IntKind.i64.wrap ((IntKind.i64.wrap (s / 256 % 256))*2 ^ 8))) (IntKind.i64.wrap (s % 256))) 2147483647=s:=by
  rw [num4 (by omega) (by omega) (by omega) (by omega),show s / 16777216*16777216+s / 65536 % 256*65536+s / 256 % 256*256+s % 256=s by omega,and31 (by omega) (by omega)]
  omega
 have hc:cutI (fb k fl s body++rest) 9 (9+n)=some body:=by
  rw [hX]
  exact cutI_mid _ _ _ rfl (by show 9+n=((9+body.length:Nat):Int);omega)
 have hc2:cutI (fb k fl s body++rest) (9+n) (9+n+(rest.length:Int))=some rest:=by
  refine cutI_end _ _ ?_ ?_
  ·rw [fb_len];omega
  ·rw [List.length_append,fb_len];omega
 unfold F_frame_Parser_Next
 refine join_inl ?_
 unfold chk
 simp only [hp,cond_true,hg,Option.bind_some,hlen,g0,g1,g2,g3,g4,g5,g6,g7,g8,h3,h4]
 rw [decide_eq_false (show ¬ 9+n+(rest.length:Int) < 9 by omega),cond_false,decide_eq_false (show ¬ n > 16384 by omega),cond_false,wB64 (x:=9+n+(rest.length:Int) - 9) (by omega) (by omega),decide_eq_false (show ¬ 9+n+(rest.length:Int) - 9 < n by omega),cond_false,wB64 (x:=9+n) (by omega) (by omega),hc,Option.bind_some]
 unfold F_bytes_Clone
 rw [Nat.ble_eq_true_of_le (show body.length<=100000000 by omega),cond_true,Option.bind_some,hc2,Option.bind_some,wB64 (x:=fl) (by omega) (by omega),wB64 (x:=k) (by omega) (by omega)]
theorem next_short {X:List Int} (hp:nnI p=true) (hg:getI Ps p=some (16384,X)) (hX:X.length < 9):F_frame_Parser_Next p Ps=some (0,0,0,[],4,Ps):=by
 unfold F_frame_Parser_Next
 refine (join_inr (s:=(0,(0,0,0,[],Ps))) ?_).trans ?_
 ·unfold chk
  rw [hp,cond_true,hg,Option.bind_some]
  dsimp only
  rw [decide_eq_true (by omega),cond_true]
 ·refine loop_inl ?_
  unfold F_frame_Parser_Next_G1 F_frame_Parser_Next_G1_0
  rfl
theorem feed_at {room:Int} {X Y:List Int} (hp:nnI p=true) (hg:getI Ps p=some (room,X)) (hl:X.length+Y.length<=100000000):F_frame_Parser_Feed p Y Ps=some (Ps.set p.toNat (room,X++Y)):=by
 unfold F_frame_Parser_Feed chk F_slices_Concat_byte_byte
 have e:([X,Y]:List (List Int)).flatten=X++Y:=by simp
 simp only [hp,cond_true,hg,Option.bind_some,e]
 rw [Nat.ble_eq_true_of_le (show (X++Y).length<=100000000 by rw [List.length_append];exact hl),Nat.ble_eq_true_of_le (show ([X,Y]:List (List Int)).length<=100000000 by simp)]
 rfl
theorem ckB {n m:Nat} (h:n+m<=1000000000):(decide ((n+m)*1<=140737488355328)&&decide (n+m<=maxLen))=true:=by
 have hm:maxLen=9223372036854775807:=rfl
 rw [Bool.and_eq_true,decide_eq_true_iff,decide_eq_true_iff]
 omega
def beL (n:Int):Nat->List Int
 | 0=>[]
 | k+1=>IntKind.u8.wrap (Int.fdiv n (2 ^ (8*k)))::beL n k
theorem beL_len (n:Int):∀ k,(beL n k).length=k
 | 0=>rfl
 | k+1=>by show (beL n k).length+1=_;rw [beL_len n k]
theorem u8w (x:Int):IntKind.u8.wrap x=x % 256:=by
 rw [IntKind.wrap_u8]
theorem u8_id {x:Int} (h0:0<=x) (h1:x<=255):IntKind.u8.wrap x=x:=by rw [u8w];omega
theorem num_loop (n:Int):∀ (k:Nat) (l:List Int),k<=8->l.length+k<=100->loopC (F_wlvref10_num_L4 n) (l,(k:Int) - 1)=some (.inr (l++beL n k))
 | 0,l,_,_=>by
  refine loop_inl ?_
  unfold F_wlvref10_num_L4
  dsimp only
  rw [decide_eq_false (by omega),cond_false]
  unfold beL
  rw [List.append_nil]
 | k+1,l,hk,hl=>by
  refine loop_inr (s':=(l++[IntKind.u8.wrap (Int.fdiv n (2 ^ (8*k)))],(k:Int) - 1)) ?_ ((num_loop n k _ (by omega) (by rw [List.length_append];show l.length+1+k<=_;omega)).trans (by rw [List.append_assoc];rfl))
  unfold F_wlvref10_num_L4 chk
  dsimp only
  have e:((k+1:Nat):Int) - 1=(k:Int):=by omega
  have e8:IntKind.i64.wrap (8*(k:Int))=8*(k:Int):=wB64 (by omega) (by omega)
  have eu:IntKind.u64.wrap (8*(k:Int))=8*(k:Int):=by
   show (8*(k:Int)) % 18446744073709551616=_
   omega
  have e9:(min (8*(k:Int)).toNat 64)=8*k:=by omega
  rw [e,decide_eq_true (show (k:Int) >= 0 by omega),cond_true,e8,eu,e9,decide_eq_true (show 0<=8*(k:Int) by omega),cond_true,ckB (by simp;omega),cond_true,wB64 (x:=(k:Int) - 1) (by omega) (by omega)]
theorem num_eq (n:Int) (k:Nat) (hk:k<=8):F_wlvref10_num n (k:Int)=some (beL n k):=by
 unfold F_wlvref10_num
 have h:=num_loop n k [] hk (by simp;omega)
 rw [wB64 (by omega) (by omega),join_inr h]
 rfl
theorem be4_eq {n:Int} (h0:0<=n) (h1:n < 4294967296):beL n 4=[n / 16777216,n / 65536 % 256,n / 256 % 256,n % 256]:=by
 unfold beL beL beL beL beL
 rw [u8w,u8w,u8w,u8w,Int.fdiv_eq_ediv_of_nonneg _ (by decide),Int.fdiv_eq_ediv_of_nonneg _ (by decide),Int.fdiv_eq_ediv_of_nonneg _ (by decide),Int.fdiv_eq_ediv_of_nonneg _ (by decide)]
 have e3:(2:Int) ^ (8*3)=16777216:=by decide
 have e2:(2:Int) ^ (8*2)=65536:=by decide
 have e1:(2:Int) ^ (8*1)=256:=by decide
 have e0:(2:Int) ^ (8*0)=1:=by decide
 rw [e3,e2,e1,e0,show n / 16777216 % 256=n / 16777216 by omega,Int.ediv_one]
theorem be3_eq {n:Int} (h0:0<=n) (h1:n < 16777216):beL n 3=[n / 65536,n / 256 % 256,n % 256]:=by
 unfold beL beL beL beL
 rw [u8w,u8w,u8w,Int.fdiv_eq_ediv_of_nonneg _ (by decide),Int.fdiv_eq_ediv_of_nonneg _ (by decide),Int.fdiv_eq_ediv_of_nonneg _ (by decide)]
 have e2:(2:Int) ^ (8*2)=65536:=by decide
 have e1:(2:Int) ^ (8*1)=256:=by decide
 have e0:(2:Int) ^ (8*0)=1:=by decide
 rw [e2,e1,e0,show n / 65536 % 256=n / 65536 by omega,Int.ediv_one]
theorem put_eq {k fl s:Int} {body:List Int} (h:okFb k fl s body):F_wlvref10_Put k fl s body=some (fb k fl s body,0):=by
 obtain ⟨hk,hf,hs,hb⟩:=h
 unfold F_wlvref10_Put
 rw [decide_eq_false (show ¬ k < 0 by omega),cond_false,decide_eq_false (show ¬ k > 255 by omega),cond_false,decide_eq_false (show ¬ fl < 0 by omega),cond_false,decide_eq_false (show ¬ fl > 255 by omega),cond_false,decide_eq_false (show ¬ s < 0 by omega),cond_false,
  decide_eq_false (show ¬ s > 2147483647 by omega),cond_false,decide_eq_false (show ¬ (body.length:Int) >= 16777216 by omega),cond_false]
 have h3:=num_eq (body.length:Int) 3 (by omega)
 have h4:=num_eq s 4 (by omega)
 have h3':F_wlvref10_num (body.length:Int) 3=some (beL (body.length:Int) 3):=h3
 have h4':F_wlvref10_num s 4=some (beL s 4):=h4
 rw [h3',Option.bind_some]
 unfold chk
 rw [ckB (by rw [beL_len];simp),cond_true,h4',Option.bind_some,ckB (by simp only [List.length_append,beL_len,List.length_cons,List.length_nil];omega),cond_true,ckB (by simp only [List.length_append,beL_len,List.length_cons,List.length_nil];omega),cond_true,u8_id (x:=k) (by omega) (by omega),u8_id (x:=fl) (by omega) (by omega)]
 rw [be3_eq (by omega) (by omega),be4_eq (by omega) (by omega)]
 rfl
theorem settings_eq (a:Bool):F_wlvref10_Settings [] a=some (4,cond a 1 0,0,[]):=by
 unfold F_wlvref10_Settings
 cases a
 ·exact (join_inr (s:=(0,0,0,[],4,0,0,[])) (loop_inl rfl)).trans rfl
 ·exact (join_inr (s:=(0,0,0,[],4,1,0,[])) (loop_inl rfl)).trans rfl
abbrev PrtD:=List Int×Int×Int×Int×Int×List (Int×Int)×Bool×Bool×Bool×Bool×Bool×Int
theorem eta12 (x:Option PrtD):(x.bind fun x5=>some (x5.1,x5.2.1,x5.2.2.1,x5.2.2.2.1,x5.2.2.2.2.1,x5.2.2.2.2.2.1,x5.2.2.2.2.2.2.1,x5.2.2.2.2.2.2.2.1,x5.2.2.2.2.2.2.2.2.1,x5.2.2.2.2.2.2.2.2.2.1,x5.2.2.2.2.2.2.2.2.2.2.1,x5.2.2.2.2.2.2.2.2.2.2.2))=x:=by cases x <;> rfl
theorem read1 (fl s:Int) (l:List Int):F_part_Read 1 fl s l=F_part_bodied 1 fl s l:=eta12 _
theorem read4 (fl s:Int) (l:List Int):F_part_Read 4 fl s l=F_part_settings 4 fl s l:=eta12 _
theorem clone_eq {l:List Int} (h:l.length<=100000000):F_bytes_Clone l=some l:=by
 unfold F_bytes_Clone
 rw [Nat.ble_eq_true_of_le h,cond_true]
theorem cut_all (l:List Int) (h:l.length<=1000000000):cutI l 0 (IntKind.i64.wrap ((l.length:Int) - 0))=some l:=by
 rw [wB64 (by omega) (by omega)]
 exact cutI_end [] l rfl (by simp)
theorem bodied_head {fl s:Int} {body:List Int} (hs:(s==0)=false) (hf:(bits .and .i64 fl 8==0)=true) (hf2:(bits .and .i64 fl 32==0)=true) (hb:body.length<=16384) :
  F_part_bodied 1 fl s body=some (body,0,0,0,0,[],decide (bits .and .i64 fl 1 > 0),false,decide (bits .and .i64 fl 4 > 0),false,false,0):=by
 unfold F_part_bodied
 refine (join_inr (s:=(0,(body,0,[],0,0,0,0,[],decide (bits .and .i64 fl 1 > 0),false,decide (bits .and .i64 fl 4 > 0),[],0,0,0,0,[],false,false,false,false,false,0))) ?_).trans (loop_inr (s':=(1,(body,0,[],0,0,0,0,[],decide (bits .and .i64 fl 1 > 0),false,decide (bits .and .i64 fl 4 > 0),[],0,0,0,0,[],false,false,false,false,false,0))) ?_ (loop_inl ?_))
 ·rw [show ((1:Int)==1)=true from rfl,cond_true,hs,cond_false,hf,cond_true]
 ·unfold F_part_bodied_G1
  rw [show hasN [0] 0=true from rfl,cond_true]
  unfold F_part_bodied_G1_0
  dsimp only
  rw [show ((1:Int)==0)=false from rfl,cond_false,hf2,cond_true]
 ·unfold F_part_bodied_G1
  rw [show hasN [0] 1=false from rfl,cond_false,show hasN [1] 1=true from rfl,cond_true]
  unfold F_part_bodied_G1_1
  dsimp only
  rw [decide_eq_false (show ¬ (0:Int) > (body.length:Int) by omega),cond_false,cut_all body (by omega),Option.bind_some,clone_eq (by omega),Option.bind_some]
theorem read_settings (a:Bool):F_part_Read 4 (cond a 1 0) 0 []=some ([],0,0,0,0,[],false,a,false,false,false,0):=by
 rw [read4]
 cases a
 ·exact (join_inr (s:=(([]:List Int),0,0,0,0,([]:List (Int×Int)),false,false,false,false,false,0,([]:List Int),0,0,0,0,([]:List (Int×Int)),false,false,false)) (loop_inl rfl)).trans rfl
 ·exact (join_inr (s:=(([]:List Int),0,0,0,0,([]:List (Int×Int)),false,false,false,false,false,0,([]:List Int),0,0,0,0,([]:List (Int×Int)),false,true,false)) (loop_inl rfl)).trans rfl
theorem getI_set {α:Type} {l:List α} {j:Int} {x y:α} (h:getI l j=some y):getI (l.set j.toNat x) j=some x:=by
 unfold getI at h ⊢
 cases hd:decide (0<=j) with
 | false=>rw [hd] at h;cases h
 | true=>
  rw [hd,cond_true] at h
  rw [cond_true,List.getElem?_set,if_pos rfl,if_pos (List.getElem?_eq_some_iff.1 h).1]
theorem getI_nn {α:Type} {l:List α} {j:Int} {y:α} (h:getI l j=some y):nnI j=true:=by
 unfold getI at h
 unfold nnI
 cases hd:decide (0<=j) with
 | false=>rw [hd] at h;cases h
 | true=>rfl
theorem getI_ne {α:Type} {l:List α} {i j:Int} {x y:α} (hi:nnI i=true) (hij:i≠j) (h:getI l j=some y):getI (l.set i.toNat x) j=some y:=by
 unfold getI at h ⊢
 cases hd:decide (0<=j) with
 | false=>rw [hd] at h;cases h
 | true=>
  have h1:0<=i:=of_decide_eq_true hi
  have h2:0<=j:=of_decide_eq_true hd
  rw [hd,cond_true] at h
  rw [cond_true,List.getElem?_set,if_neg (by omega)]
  exact h
theorem getI_app {α:Type} {l r:List α} {j:Int} {y:α} (h:getI l j=some y):getI (l++r) j=some y:=by
 unfold getI at h ⊢
 cases hd:decide (0<=j) with
 | false=>rw [hd] at h;cases h
 | true=>
  rw [hd,cond_true] at h
  rw [cond_true,List.getElem?_append_left (List.getElem?_eq_some_iff.1 h).1]
  exact h
theorem getI_new {α:Type} {l:List α} {y:α}:getI (l++[y]) (l.length:Int)=some y:=by
 unfold getI
 rw [decide_eq_true (by omega),cond_true,Int.toNat_natCast,List.getElem?_append_right (Nat.le_refl _),Nat.sub_self]
 rfl
theorem getI_new0 {α:Type} {l r:List α} {y:α}:getI (l++y::r) (l.length:Int)=some y:=by
 unfold getI
 rw [decide_eq_true (by omega),cond_true,Int.toNat_natCast,List.getElem?_append_right (Nat.le_refl _),Nat.sub_self]
 rfl
theorem set_two {α:Type} {l:List α} {j:Int} {x y:α}:(l.set j.toNat x).set j.toNat y=l.set j.toNat y:=List.set_set _
end Go.Proofs.YtifbhefbhlbofaaGreatDoor
namespace Go.Proofs.YtifbhefbhlbofaaGreatDoor
namespace Vc
open Ieee
def fl (n:Int):Nat:=FloatKind.f64.nearest n
end Vc
end Go.Proofs.YtifbhefbhlbofaaGreatDoor
namespace Go.Proofs.YtifbhefbhlbofaaGreatDoor
open Pv
set_option linter.unusedVariables false
def fz (a b:Int):Nat×Nat:=(Vc.fl a,Vc.fl b)
abbrev Fld:=List Int×List Int×Bool
abbrev PD:=Int×List Int
abbrev DD:=Int×Bool
abbrev TD:=List Fld×Int×Int
abbrev ED:=Int×Int×Int
abbrev BD:=Int×Int×Int×Bool×List Int
theorem set_new {α:Type} {l:List α} {x y:α}:(l++[x]).set (l.length:Int).toNat y=l++[y]:=by
 rw [Int.toNat_natCast,List.set_append_right _ _ (Nat.le_refl _),Nat.sub_self];rfl
theorem fput_eq {k fl s:Int} {body:List Int} (h:okFb k fl s body):F_frame_Put k fl s body=some (fb k fl s body,0):=by
 obtain ⟨hk,hf,hs,hb⟩:=h
 unfold F_frame_Put
 rw [decide_eq_false (show ¬ k < 0 by omega),cond_false,decide_eq_false (show ¬ k > 255 by omega),cond_false,decide_eq_false (show ¬ fl < 0 by omega),cond_false,decide_eq_false (show ¬ fl > 255 by omega),cond_false,decide_eq_false (show ¬ s < 0 by omega),cond_false,
  decide_eq_false (show ¬ s > 2147483647 by omega),cond_false,decide_eq_false (show ¬ (body.length:Int) > 16777215 by omega),cond_false]
 unfold chk
 rw [ckB (by simp only [List.length_cons,List.length_nil];omega),cond_true]
 have e24:(2:Int) ^ 24=16777216:=by decide
 have e16:(2:Int) ^ 16=65536:=by decide
 have e8:(2:Int) ^ 8=256:=by decide
 rw [e24,e16,e8]
 simp only [u8w,Int.fdiv_eq_ediv_of_nonneg _ (show (0:Int)<=16777216 by decide),Int.fdiv_eq_ediv_of_nonneg _ (show (0:Int)<=65536 by decide),Int.fdiv_eq_ediv_of_nonneg _ (show (0:Int)<=256 by decide)]
 unfold fb hd9
 rw [show (body.length:Int) / 65536 % 256=(body.length:Int) / 65536 by omega,show k % 256=k by omega,show fl % 256=fl by omega,show s / 16777216 % 256=s / 16777216 by omega]
theorem bits_loop (n:Int):∀ (k:Nat) (l:List Int),k<=8->l.length+k<=100->loopC (F_part_bits_L4 n) (l,(k:Int) - 1)=some (.inr (l++beL n k))
 | 0,l,_,_=>by
  refine loop_inl ?_
  unfold F_part_bits_L4
  dsimp only
  rw [decide_eq_false (by omega),cond_false]
  unfold beL
  rw [List.append_nil]
 | k+1,l,hk,hl=>by
  refine loop_inr (s':=(l++[IntKind.u8.wrap (Int.fdiv n (2 ^ (8*k)))],(k:Int) - 1)) ?_ ((bits_loop n k _ (by omega) (by rw [List.length_append];show l.length+1+k<=_;omega)).trans (by rw [List.append_assoc];rfl))
  unfold F_part_bits_L4 chk
  dsimp only
  have e:((k+1:Nat):Int) - 1=(k:Int):=by omega
  have e8:IntKind.i64.wrap (8*(k:Int))=8*(k:Int):=wB64 (by omega) (by omega)
  have e9:(min (8*(k:Int)).toNat 64)=8*k:=by omega
  rw [e,decide_eq_true (show (k:Int) >= 0 by omega),cond_true,e8,e9,decide_eq_true (show 0<=8*(k:Int) by omega),cond_true,ckB (by simp;omega),cond_true,wB64 (x:=(k:Int) - 1) (by omega) (by omega)]
theorem bits_eq (n:Int) (k:Nat) (hk:k<=8):F_part_bits n (k:Int)=some (beL n k):=by
 unfold F_part_bits
 have h:=bits_loop n k [] hk (by simp;omega)
 rw [wB64 (by omega) (by omega),join_inr h]
 rfl
theorem flag_eq (b:Bool) (n:Int):F_part_flag b n=some (cond b n 0):=by cases b <;> rfl
theorem psets_nil (a:Bool):F_part_Settings [] a=some (4,cond a 1 0,0,[]):=by
 unfold F_part_Settings
 rw [flag_eq,Option.bind_some]
 have h:loopC (S:=Int×Int×Int×Int×List Int×Int×Int×Int×List Int) (R:=(Int×Int×Int×List Int)⊕(Int×Int×Int×List Int×Int×Int×Int×List Int)) (F_part_Settings_L4 []) (0,0,0,0,([]:List Int),4,cond a 1 0,0,([]:List Int))=some (.inr (0,0,0,([]:List Int),4,cond a 1 0,0,([]:List Int))):=loop_inl rfl
 rw [join_inr h]
 rfl
theorem psets_step {l:List (Int×Int)} {i:Nat} {x:Int×Int} {a fl:Int} {acc:List Int} (hx:l[i]? = some x) (hi:l.length<=100) (ha:acc.length<=600):F_part_Settings_L4 l ((i:Int),0,0,0,[],a,fl,0,acc)=some (.inr (((i+1:Nat):Int),0,0,0,[],a,fl,0,acc++beL x.1 2++beL x.2 4)):=by
 have hil:i < l.length:=(List.getElem?_eq_some_iff.1 hx).1
 have b2:F_part_bits x.1 2=some (beL x.1 2):=bits_eq x.1 2 (by omega)
 have b4:F_part_bits x.2 4=some (beL x.2 4):=bits_eq x.2 4 (by omega)
 have hg:getI l (i:Int)=some x:=by
  unfold getI
  rw [decide_eq_true (Int.natCast_nonneg i),cond_true,Int.toNat_natCast,hx]
 unfold F_part_Settings_L4 chk
 dsimp only
 rw [decide_eq_true (show (i:Int) < (l.length:Int) by omega),cond_true,hg,Option.bind_some,b2,Option.bind_some,ckB (by rw [beL_len];omega),cond_true,b4,Option.bind_some,ckB (by rw [List.length_append,beL_len,beL_len];omega),cond_true,wB64 (x:=(i:Int)+1) (by omega) (by omega)]
 rfl
def setsB (n m:Int):List Int:=beL 3 2++beL n 4++(beL 6 2++beL m 4)
theorem setsB_len (n m:Int):(setsB n m).length=12:=by
 unfold setsB
 simp only [List.length_append,beL_len]
theorem psets_two (n m:Int):F_part_Settings [(3,n),(6,m)] false=some (4,0,0,setsB n m):=by
 unfold F_part_Settings
 rw [flag_eq,Option.bind_some]
 have h0:=psets_step (l:=[(3,n),(6,m)]) (i:=0) (a:=4) (fl:=0) (acc:=[]) rfl (by simp) (by simp)
 have h1:=psets_step (l:=[(3,n),(6,m)]) (i:=1) (a:=4) (fl:=0) (acc:=[]++beL 3 2++beL n 4) rfl (by simp) (by simp [beL_len])
 have h:loopC (S:=Int×Int×Int×Int×List Int×Int×Int×Int×List Int) (R:=(Int×Int×Int×List Int)⊕(Int×Int×Int×List Int×Int×Int×Int×List Int)) (F_part_Settings_L4 [(3,n),(6,m)]) (0,0,0,0,([]:List Int),4,cond false 1 0,0,([]:List Int))=some (.inr (0,0,0,([]:List Int),4,0,0,[]++beL 3 2++beL n 4++beL 6 2++beL m 4)):=
  loop_inr h0 (loop_inr h1 (loop_inl rfl))
 rw [join_inr h]
 unfold F_part_Settings_J2 setsB
 simp only [List.nil_append,List.append_assoc]
section
variable {p : Int} {M : List CnM} {C : List CnC} {S : List CnS} {P : List PD} {D : List DD} {T : List TD} {B : List BD} {E : List ED}
variable {r : Int × Bool × Int × Int × Int × Int} {streams enc code highest m send room : Int} {peer : Int × Int × Int × Int × Int × Int} {q cl : List Int} {dead stopped feeding : Bool} {ev : List CnE}
theorem puts_at {k fl s:Int} {body:List Int} (hC:getI C p=some (r,streams,peer,enc,q,dead,code,stopped,highest,m,cl,send,room,ev,feeding)) (h:okFb k fl s body) (hq:q.length<=900000000) :
  F_conn_Conn_puts p k fl s body C=some (C.set p.toNat (r,streams,peer,enc,q++fb k fl s body,dead,code,stopped,highest,m,cl,send,room,ev,feeding)):=by
 have hp:=getI_nn hC
 have hb:=h.2.2.2
 have he:eqI p p=true:=beq_self_eq_true p
 unfold F_conn_Conn_puts chk
 rw [fput_eq h,Option.bind_some]
 simp only [hp,cond_true,hC,Option.bind_some,he]
 rw [ckB (by rw [fb_len];omega),cond_true]
theorem lays_at {k fl s:Int} {body:List Int} (hC:getI C p=some (r,streams,peer,enc,q,false,code,stopped,highest,m,cl,send,room,ev,feeding)) (h:okFb k fl s body) (hq:q.length+9+body.length<=131072) :
  F_conn_Conn_lays p k fl s body P C=some (P,C.set p.toNat (r,streams,peer,enc,q++fb k fl s body,false,code,stopped,highest,m,cl,send,room,ev,feeding)):=by
 have hp:=getI_nn hC
 unfold F_conn_Conn_lays chk
 simp only [hp,cond_true,hC,Option.bind_some,cond_false,puts_at hC h (by omega),getI_set hC]
 rw [decide_eq_false (by rw [List.length_append,fb_len];omega),cond_false]
theorem shrinks_nil {t:Int} {n z m:Int} (hT:getI T t=some ([],z,m)):F_dyn_Table_shrinks t n T=some (T.set t.toNat ([],z,m)):=by
 have ht:=getI_nn hT
 unfold F_dyn_Table_shrinks
 refine (join_inr (s:=((0:Int),T)) (loop_inl ?_)).trans ?_
 ·unfold F_dyn_Table_shrinks_L2 chk
  simp only [ht,cond_true,hT,Option.bind_some]
  rfl
 ·unfold F_dyn_Table_shrinks_J1 chk
  have hc:cutI ([]:List Fld) 0 ((([]:List Fld).length:Nat):Int)=some []:=rfl
  have he:eqI t t=true:=by unfold eqI;exact beq_self_eq_true t
  simp only [ht,cond_true,hT,Option.bind_some,hc,he]
theorem limit_nil {t:Int} {n z m:Int} (h0:0<=n) (h1:n<=4096) (hT:getI T t=some ([],z,m)):F_dyn_Table_Limit t n T=some (0,T.set t.toNat ([],z,n)):=by
 have ht:=getI_nn hT
 unfold F_dyn_Table_Limit
 rw [decide_eq_false (show ¬ n < 0 by omega),decide_eq_false (show ¬ n > 4096 by omega)]
 show cond false _ _=_
 rw [cond_false]
 unfold chk F_slices_Clone_stat_Field_stat_Field
 have h2:=getI_set (x:=(([]:List Fld),z,n)) hT
 simp only [ht,cond_true,hT,Option.bind_some,shrinks_nil h2,h2,set_two]
 rfl
theorem dnew_at:F_dyn_New 4096 T=some ((T.length:Int),0,T++[([],(0,4096))]):=by
 have h:getI (T++[(([]:List Fld),((0:Int),(0:Int)))]) (T.length:Int)=some ([],0,0):=getI_new
 unfold F_dyn_New
 rw [limit_nil (by decide) (by decide) h,Option.bind_some]
 have e:(T++[(([]:List Fld),((0:Int),(0:Int)))]).set (T.length:Int).toNat ([],(0,4096))=T++[([],(0,4096))]:=by
  rw [Int.toNat_natCast,List.set_append_right _ _ (Nat.le_refl _),Nat.sub_self];rfl
 rw [e]
 rfl
abbrev c0 (n list:Int) (D:List DD) (P:List PD) (M:List CnM) (E:List ED):CnC:=((0,false,list,(D.length:Int),(P.length:Int),-1),n,(4096,1,2147483647,65535,16384,2147483647),(E.length:Int),fb 4 0 0 (setsB n list),false,0,false,0,(M.length:Int),[],65535,65535,[],false)
theorem cnew_at (n list:Int):F_conn_New n list D T P M C E=some ((C.length:Int),D++[((T.length:Int)+1,false)],T++[([],(0,4096)),([],(0,4096))],P++[(16384,[])],M++[[]],C++[c0 n list D P M E],E++[((T.length:Int),4096,4096)]):=by
 unfold F_conn_New F_sets_First F_pack_New F_unpack_New F_frame_New chk
 have hn:nnI (C.length:Int)=true:=decide_eq_true (by omega)
 simp only [Option.bind_some,dnew_at,hn,cond_true,getI_new,set_new,psets_two]
 rw [lays_at getI_new (k:=4) (fl:=0) (s:=0) ⟨by omega,by omega,by omega,by rw [setsB_len];omega⟩ (by rw [setsB_len];simp),Option.bind_some,set_new]
 have e1:((T++[(([]:List Fld),((0:Int),(4096:Int)))]).length:Int)=(T.length:Int)+1:=by rw [List.length_append];simp
 have e2:T++[(([]:List Fld),((0:Int),(4096:Int)))]++[([],(0,4096))]=T++[([],(0,4096)),([],(0,4096))]:=by rw [List.append_assoc];rfl
 rw [e1,e2]
 rfl
end
abbrev preL:List Int:=[80,82,73,32,42,32,72,84,84,80,47,50,46,48,13,10,13,10,83,77,13,10,13,10]
theorem set_same {α:Type} {l:List α} {j:Int} {x:α} (h:getI l j=some x):l.set j.toNat x=l:=by
 unfold getI at h
 cases hd:decide (0<=j) with
 | false=>rw [hd] at h;cases h
 | true=>
  rw [hd,cond_true] at h
  apply List.ext_getElem?
  intro i
  rw [List.getElem?_set]
  split
  ·rename_i e
   subst e
   rw [if_pos (List.getElem?_eq_some_iff.1 h).1,h]
  ·rfl
theorem getI_zero {α:Type} {x:α} {l:List α}:getI (x::l) 0=some x:=rfl
section
variable {p : Int} {M M' : List CnM} {C C' : List CnC} {S S' : List CnS} {P P' P'' : List PD} {D D' : List DD} {T T' : List TD} {B B' : List BD} {E E' : List ED}
variable {head list dec par blk streams enc code highest m send room : Int} {begun : Bool} {peer : Int × Int × Int × Int × Int × Int} {q cl : List Int} {dead stopped feeding : Bool} {ev : List CnE}
variable {b b0 body : List Int} {i1 i2 i3 k fl s : Int}
theorem feed3 {x:List Int×Int×Int×Int×List Int×List DD×List TD×List PD×List CnM×List CnC×List CnS×List BD×List ED}:F_conn_Conn_Feed_G1 p (3,x)=F_conn_Conn_Feed_G1_3 p x:=rfl
theorem feed0 {x:List Int×Int×Int×Int×List Int×List DD×List TD×List PD×List CnM×List CnC×List CnS×List BD×List ED}:F_conn_Conn_Feed_G1 p (0,x)=F_conn_Conn_Feed_G1_0 p x:=rfl
theorem feed2 {x:List Int×Int×Int×Int×List Int×List DD×List TD×List PD×List CnM×List CnC×List CnS×List BD×List ED}:F_conn_Conn_Feed_G1 p (2,x)=F_conn_Conn_Feed_G1_2 p x:=rfl
theorem feed1 {x:List Int×Int×Int×Int×List Int×List DD×List TD×List PD×List CnM×List CnC×List CnS×List BD×List ED}:F_conn_Conn_Feed_G1 p (1,x)=F_conn_Conn_Feed_G1_1 p x:=rfl
theorem feed_step {head' list' dec' par' blk' streams' enc' code' highest' m' send' room':Int} {begun':Bool} {peer':Int×Int×Int×Int×Int×Int} {q' cl':List Int} {stopped' feeding':Bool} {ev':List CnE}
  (hC:getI C p=some ((head,begun,list,dec,par,blk),streams,peer,enc,q,dead,code,stopped,highest,m,cl,send,room,ev,feeding)) (hN:F_frame_Parser_Next par P=some (k,fl,s,body,0,P'))
  (hR:F_conn_Conn_reads p k fl s body D T P' M C S B E=some (D',T',P'',M',C',S',B',E')) (hC':getI C' p=some ((head',begun',list',dec',par',blk'),streams',peer',enc',q',false,code',stopped',highest',m',cl',send',room',ev',feeding')) :
  F_conn_Conn_Feed_G1 p (3,(b,i1,i2,i3,b0,D,T,P,M,C,S,B,E))=some (.inr (3,(b,k,fl,s,body,D',T',P'',M',C',S',B',E'))):=by
 have hp:=getI_nn hC
 rw [feed3]
 unfold F_conn_Conn_Feed_G1_3 chk
 simp only [hp,cond_true,hC,Option.bind_some,hN]
 rw [show ((0:Int)==0)=true from rfl,cond_true,hR,Option.bind_some]
 simp only [hC',Option.bind_some,Bool.not_false,cond_true]
theorem feed_short (hC:getI C p=some ((head,begun,list,dec,par,blk),streams,peer,enc,q,dead,code,stopped,highest,m,cl,send,room,ev,feeding)) (hN:F_frame_Parser_Next par P=some (k,fl,s,body,4,P')) :
  F_conn_Conn_Feed_G1 p (3,(b,i1,i2,i3,b0,D,T,P,M,C,S,B,E))=some (.inr (2,(b,k,fl,s,body,D,T,P',M,C,S,B,E))):=by
 have hp:=getI_nn hC
 rw [feed3]
 unfold F_conn_Conn_Feed_G1_3 chk
 simp only [hp,cond_true,hC,Option.bind_some,hN]
 rfl
theorem feed_end (hC:getI C p=some ((head,begun,list,dec,par,blk),streams,peer,enc,q,dead,code,stopped,highest,m,cl,send,room,ev,feeding)) :
  F_conn_Conn_Feed_G1 p (2,(b,i1,i2,i3,b0,D,T,P,M,C,S,B,E))=some (.inl (ev,D,T,P,M,C.set p.toNat ((head,begun,list,dec,par,blk),streams,peer,enc,q,dead,code,stopped,highest,m,cl,send,room,[],false),S,B,E)):=by
 have hp:=getI_nn hC
 rw [feed2]
 unfold F_conn_Conn_Feed_G1_2 chk
 simp only [hp,cond_true,hC,Option.bind_some,getI_set hC,set_two]
theorem feed_bytes (hC:getI C p=some ((head,begun,list,dec,par,blk),streams,peer,enc,q,dead,code,stopped,highest,m,cl,send,room,ev,feeding)) (hF:F_frame_Parser_Feed par b P=some P') :
  F_conn_Conn_Feed_G1 p (0,(b,i1,i2,i3,b0,D,T,P,M,C,S,B,E))=F_conn_Conn_Feed_G1 p (3,(b,i1,i2,i3,b0,D,T,P',M,C,S,B,E)):=by
 have hp:=getI_nn hC
 rw [feed0,feed3]
 unfold F_conn_Conn_Feed_G1_0 F_conn_Conn_Feed_G1_3 chk
 simp only [hp,cond_true,hC,Option.bind_some,hF]
theorem loop_swap {S R:Type} {f:S->Option (R⊕S)} {x y:S} {r:R} (h:f x=f y) (k:loopC f y=some r):loopC f x=some r:=by
 obtain ⟨n,hn⟩:=iter_of_loop' k
 refine loop_of_iter (n:=n) ?_
 cases n with
 | zero=>cases hn
 | succ n=>unfold iterC at hn ⊢;rw [h];exact hn
theorem cfeed_at {l:List Int} {z:List CnE×List DD×List TD×List PD×List CnM×List CnC×List CnS×List BD×List ED} (hC:getI C p=some ((24,begun,list,dec,par,blk),streams,peer,enc,q,false,code,stopped,highest,m,cl,send,room,ev,feeding)) (hF:F_frame_Parser_Feed par l P=some P')
  (hz:loopC (F_conn_Conn_Feed_G1 p) (3,(l,0,0,0,[],D,T,P',M,C.set p.toNat ((24,begun,list,dec,par,blk),streams,peer,enc,q,false,code,stopped,highest,m,cl,send,room,[],true),S,B,E))=some z) :
  F_conn_Conn_Feed p l D T P M C S B E=some z:=by
 have hp:=getI_nn hC
 have hC2:=getI_set (x:=(((24:Int),begun,list,dec,par,blk),streams,peer,enc,q,false,code,stopped,highest,m,cl,send,room,([]:List CnE),true)) hC
 refine Eq.trans ?_ (loop_swap (feed_bytes hC2 hF) hz)
 unfold F_conn_Conn_Feed
 refine join_inr ?_
 unfold chk
 simp only [hp,cond_true,hC,Option.bind_some,cond_false,getI_set hC,set_two]
 cases hl:((l.length:Int)==0)
 ·rw [cond_false];rfl
 ·rw [cond_true]
theorem pre_step {rest:List Int} {j:Nat} {x:Int} (hj:preL[j]? = some x) (hC:getI C p=some (((j:Int),begun,list,dec,par,blk),streams,peer,enc,q,dead,code,stopped,highest,m,cl,send,room,ev,feeding)) (hr:rest.length<=1000000000) :
  F_conn_Conn_Feed_G1 p (1,(x::rest,i1,i2,i3,b0,D,T,P,M,C,S,B,E))=some (.inr (1,(rest,i1,i2,i3,b0,D,T,P,M,C.set p.toNat ((((j+1:Nat):Int),begun,list,dec,par,blk),streams,peer,enc,q,dead,code,stopped,highest,m,cl,send,room,ev,feeding),S,B,E))):=by
 have hp:=getI_nn hC
 have hj24:j < 24:=by
  have:=(List.getElem?_eq_some_iff.1 hj).1
  exact this
 rw [feed1]
 unfold F_conn_Conn_Feed_G1_1 chk
 have h0:(((x::rest).length:Int)==0)=false:=beq_eq_false_iff_ne.2 (by simp;omega)
 have h24:((j:Int)==24)=false:=beq_eq_false_iff_ne.2 (by omega)
 have hx:getI ([80,82,73,32,42,32,72,84,84,80,47,50,46,48,13,10,13,10,83,77,13,10,13,10]:List Int) (j:Int)=some x:=by
  unfold getI
  rw [decide_eq_true (Int.natCast_nonneg j),cond_true,Int.toNat_natCast]
  exact hj
 have hc:cutI (x::rest) 1 ((x::rest).length:Int)=some rest:=cutI_end [x] rest rfl rfl
 have hne:(x != x)=false:=by simp
 simp only [h0,cond_false,hp,cond_true,hC,Option.bind_some,h24,getI_zero,hx,hne,hc]
 rw [wB64 (x:=(j:Int)+1) (by omega) (by omega)]
 rfl
theorem pre_loop {rest:List Int} {z:List CnE×List DD×List TD×List PD×List CnM×List CnC×List CnS×List BD×List ED} (hr:rest.length<=900000000):∀ (n j:Nat) (C:List CnC),j+n=24->getI C p=some (((j:Int),begun,list,dec,par,blk),streams,peer,enc,q,dead,code,stopped,highest,m,cl,send,room,ev,feeding) ->
  loopC (F_conn_Conn_Feed_G1 p) (0,(rest,i1,i2,i3,b0,D,T,P,M,C.set p.toNat ((24,begun,list,dec,par,blk),streams,peer,enc,q,dead,code,stopped,highest,m,cl,send,room,ev,feeding),S,B,E))=some z ->
  loopC (F_conn_Conn_Feed_G1 p) (1,(preL.drop j++rest,i1,i2,i3,b0,D,T,P,M,C,S,B,E))=some z
 | 0,j,C,hj,hC,hz=>by
  have hj:j=24:=by omega
  subst hj
  have hp:=getI_nn hC
  have e:C.set p.toNat (((24:Int),begun,list,dec,par,blk),streams,peer,enc,q,dead,code,stopped,highest,m,cl,send,room,ev,feeding)=C:=set_same hC
  rw [e] at hz
  rw [show preL.drop 24=[] from rfl,List.nil_append]
  refine loop_inr ?_ hz
  rw [feed1]
  unfold F_conn_Conn_Feed_G1_1 chk
  cases hl:((rest.length:Int)==0)
  ·simp only [cond_false,hl,hp,cond_true,hC,Option.bind_some]
   rfl
  ·simp only [hl,cond_true]
 | n+1,j,C,hj,hC,hz=>by
  have hjl:j < preL.length:=by show j < 24;omega
  rw [List.drop_eq_getElem_cons hjl,List.cons_append]
  refine loop_inr (pre_step (List.getElem?_eq_getElem hjl) hC (by rw [List.length_append,List.length_drop];show 24 - (j+1)+rest.length<=_;omega)) ?_
  exact pre_loop hr n (j+1) _ (by omega) (getI_set hC) (by rw [set_two];exact hz)
end
theorem read6 (fl s:Int) (l:List Int):F_part_Read 6 fl s l=F_part_whole 6 fl s l:=eta12 _
theorem read_ping {a:Bool} {l:List Int} (hl:l.length=8):F_part_Read 6 (cond a 1 0) 0 l=some (l,0,0,0,0,[],false,a,false,false,false,0):=by
 have ha:decide (bits .and .i64 (cond a 1 0) 1 > 0)=a:=by cases a <;> decide +kernel
 rw [read6]
 unfold F_part_whole
 rw [show ((0:Int) != 0)=false from rfl,cond_false,decide_eq_false (show ¬ (l.length:Int) < 8 by omega),cond_false,show ((6:Int)==6)=true from rfl,cond_true,decide_eq_false (show ¬ (l.length:Int) > 8 by omega),cond_false,cond_true,clone_eq (by omega),Option.bind_some,ha]
theorem pingB_8 {l:List Int} (hl:l.length=8):pingB l=l:=by
 unfold pingB
 rw [hl,Nat.sub_self,List.replicate_zero,List.append_nil,List.take_of_length_le (by omega)]
section
variable {p : Int} {M M' : List CnM} {C C' : List CnC} {S S' : List CnS} {P P' P'' : List PD} {D D' : List DD} {T T' : List TD} {B B' : List BD} {E E' : List ED}
variable {head list dec par blk streams enc code highest m send room : Int} {begun : Bool} {peer : Int × Int × Int × Int × Int × Int} {q cl : List Int} {dead stopped feeding : Bool} {ev : List CnE}
theorem cfeed_first {rest:List Int} {z:List CnE×List DD×List TD×List PD×List CnM×List CnC×List CnS×List BD×List ED} (hC:getI C p=some ((0,begun,list,dec,par,blk),streams,peer,enc,q,false,code,stopped,highest,m,cl,send,room,ev,feeding)) (hr:rest.length<=900000000) (hF:F_frame_Parser_Feed par rest P=some P')
  (hz:loopC (F_conn_Conn_Feed_G1 p) (3,(rest,0,0,0,[],D,T,P',M,C.set p.toNat ((24,begun,list,dec,par,blk),streams,peer,enc,q,false,code,stopped,highest,m,cl,send,room,[],true),S,B,E))=some z) :
  F_conn_Conn_Feed p (preL++rest) D T P M C S B E=some z:=by
 have hp:=getI_nn hC
 have hC1:=getI_set (x:=(((1:Int),begun,list,dec,par,blk),streams,peer,enc,q,false,code,stopped,highest,m,cl,send,room,([]:List CnE),true)) hC
 have hC24:=getI_set (x:=(((24:Int),begun,list,dec,par,blk),streams,peer,enc,q,false,code,stopped,highest,m,cl,send,room,([]:List CnE),true)) hC
 have h1:=pre_loop (i1:=0) (i2:=0) (i3:=0) (b0:=[]) (D:=D) (T:=T) (P:=P) (M:=M) (S:=S) (B:=B) (E:=E) (z:=z) hr 23 1 _ (by omega) hC1 (by rw [set_two];exact loop_swap (feed_bytes hC24 hF) hz)
 refine Eq.trans ?_ h1
 unfold F_conn_Conn_Feed
 refine join_inr ?_
 unfold chk
 have h0:(((preL++rest).length:Int)==0)=false:=beq_eq_false_iff_ne.2 (by simp;omega)
 have h24:((0:Int)==24)=false:=rfl
 have hx:getI ([80,82,73,32,42,32,72,84,84,80,47,50,46,48,13,10,13,10,83,77,13,10,13,10]:List Int) 0=some 80:=rfl
 have hx2:getI (preL++rest) 0=some 80:=rfl
 have hc:cutI (preL++rest) 1 ((preL++rest).length:Int)=some (preL.drop 1++rest):=cutI_end [80] (preL.drop 1++rest) rfl rfl
 have hne:((80:Int) != 80)=false:=rfl
 simp only [hp,cond_true,hC,Option.bind_some,cond_false,getI_set hC,set_two,h0,h24,hx,hx2,hc,hne]
 rw [show IntKind.i64.wrap ((0:Int)+1)=1 from rfl]
theorem begun_on {k fl s:Int} {body:List Int} (hC:getI C p=some ((head,true,list,dec,par,-1),streams,peer,enc,q,dead,code,stopped,highest,m,cl,send,room,ev,feeding)) (hk:(k==9)=false):F_conn_Conn_misplaced p k fl s body C B=some (false,C):=by
 have hp:=getI_nn hC
 have e:C.set p.toNat ((head,true,list,dec,par,-1),streams,peer,enc,q,dead,code,stopped,highest,m,cl,send,room,ev,feeding)=C:=set_same hC
 unfold F_conn_Conn_misplaced chk
 simp only [hp,cond_true,hC,Option.bind_some,Bool.not_true,cond_false,e]
 rw [show eqI (-1:Int) (-1)=true from rfl,Bool.not_true,cond_false,hk]
theorem begun_first {fl s:Int} {body:List Int} (hC:getI C p=some ((head,false,list,dec,par,blk),streams,peer,enc,q,dead,code,stopped,highest,m,cl,send,room,ev,feeding)) (hf:decide (bits .and .i64 fl 1 > 0)=false) :
  F_conn_Conn_misplaced p 4 fl s body C B=some (false,C.set p.toNat ((head,true,list,dec,par,blk),streams,peer,enc,q,dead,code,stopped,highest,m,cl,send,room,ev,feeding)):=by
 have hp:=getI_nn hC
 unfold F_conn_Conn_misplaced chk
 simp only [hp,cond_true,hC,Option.bind_some,Bool.not_false]
 rw [show ((4:Int) != 4)=false from rfl,cond_false,hf]
theorem open_none (hC:getI C p=some ((head,begun,list,dec,par,blk),streams,peer,enc,q,dead,code,stopped,highest,m,cl,send,room,ev,feeding)) (hM:getI M m=some []):F_conn_Conn_Open p M C S=some []:=by
 unfold F_conn_Conn_Open
 rw [hC,Option.bind_some,hM,Option.bind_some]
theorem apply_nil (a b c d e f:Int):F_sets_Apply a b c d e f []=some (a,b,c,d,e,f,false,false,0):=by
 unfold F_sets_Apply
 have h:loopC (S:=Int×Int×Int×Int×Int×Int×Int×Int×Int×Int×Int×Int×Int×Bool×Bool×Int) (R:=(Int×Int×Int×Int×Int×Int×Bool×Bool×Int)⊕(Int×Int×Int×Int×Int×Int×Int×Int×Int×Int×Int×Int×Bool×Bool×Int)) (F_sets_Apply_L3 []) (0,a,b,c,d,e,f,0,0,0,0,0,0,false,false,0)=some (.inr (a,b,c,d,e,f,0,0,0,0,0,0,false,false,0)):=loop_inl rfl
 rw [join_inr h]
 rfl
theorem csettings {t z:Int} {l:Int} {w:Int} (hC:getI C p=some ((head,begun,list,dec,par,blk),streams,(4096,1,2147483647,65535,16384,2147483647),enc,q,false,code,stopped,highest,m,cl,send,room,ev,feeding)) (hM:getI M m=some []) (hE:getI E enc=some (t,w,4096)) (hT:getI T t=some ([],z,l)) (hq:q.length+9<=131072) :
  F_conn_Conn_settings p [] 0 0 0 0 [] false false false T P M C S E=some (T.set t.toNat ([],z,4096),P,C.set p.toNat ((head,begun,list,dec,par,blk),streams,(4096,1,2147483647,65535,16384,2147483647),enc,q++fb 4 1 0 [],false,code,stopped,highest,m,cl,send,room,ev,feeding),S,E):=by
 have hp:=getI_nn hC
 have he:=getI_nn hE
 have hCe:=set_same hC
 have hEe:=set_same hE
 have hlay:F_conn_Conn_lays p 4 1 0 [] P C=some (P,C.set p.toNat ((head,begun,list,dec,par,blk),streams,(4096,1,2147483647,65535,16384,2147483647),enc,q++fb 4 1 0 [],false,code,stopped,highest,m,cl,send,room,ev,feeding)):=
  lays_at hC ⟨by decide,by decide,by decide,by simp⟩ (by simpa using hq)
 have hpeer:F_pack_Enc_Peer enc 4096 T E=some (T.set t.toNat ([],z,4096),E):=by
  unfold F_pack_Enc_Peer chk
  simp only [he,cond_true,hE,Option.bind_some]
  rw [show minI (maxI 4096 0) 4096=4096 from rfl,limit_nil (by decide) (by decide) hT,Option.bind_some]
  dsimp only
  rw [show minI 4096 4096=4096 from rfl,hEe]
 unfold F_conn_Conn_settings
 rw [cond_false]
 unfold chk
 simp only [hp,cond_true,hC,Option.bind_some,apply_nil,cond_false,open_none hC hM]
 have hl:loopC (F_conn_Conn_settings_L9 p []) (([]:List Int),0,4096,1,2147483647,65535,16384,2147483647,T,P,M,C,S,E)=some (.inr (4096,1,2147483647,65535,16384,2147483647,T,P,M,C,S,E)):=loop_inl rfl
 refine (join_inr hl).trans ?_
 unfold F_conn_Conn_settings_J7 chk
 simp only [hp,cond_true,hC,Option.bind_some,hCe,hpeer,psets_nil,hlay]
theorem creads_settings {t z l w:Int} (hC:getI C p=some ((head,false,list,dec,par,blk),streams,(4096,1,2147483647,65535,16384,2147483647),enc,q,false,code,stopped,highest,m,cl,send,room,ev,feeding)) (hM:getI M m=some []) (hE:getI E enc=some (t,w,4096)) (hT:getI T t=some ([],z,l)) (hq:q.length+9<=131072) :
  F_conn_Conn_reads p 4 0 0 [] D T P M C S B E=some (D,T.set t.toNat ([],z,4096),P,M,C.set p.toNat ((head,true,list,dec,par,blk),streams,(4096,1,2147483647,65535,16384,2147483647),enc,q++fb 4 1 0 [],false,code,stopped,highest,m,cl,send,room,ev,feeding),S,B,E):=by
 have hr:F_part_Read 4 0 0 []=some ([],0,0,0,0,[],false,false,false,false,false,0):=read_settings false
 have hC2:=getI_set (x:=((head,true,list,dec,par,blk),streams,((4096:Int),(1:Int),(2147483647:Int),(65535:Int),(16384:Int),(2147483647:Int)),enc,q,false,code,stopped,highest,m,cl,send,room,ev,feeding)) hC
 unfold F_conn_Conn_reads
 rw [begun_first hC (by decide +kernel),Option.bind_some]
 dsimp only
 rw [cond_false,hr,Option.bind_some]
 dsimp only
 rw [cond_false,cond_false,cond_false,show ((4:Int)==0)=false from rfl,cond_false,show ((4:Int)==1)=false from rfl,cond_false,show ((4:Int)==9)=false from rfl,cond_false,show ((4:Int)==3)=false from rfl,cond_false,show ((4:Int)==4)=true from rfl,cond_true,csettings hC2 hM hE hT hq,Option.bind_some,set_two]
theorem creads_ping {l:List Int} (hC:getI C p=some ((head,true,list,dec,par,-1),streams,peer,enc,q,false,code,stopped,highest,m,cl,send,room,ev,feeding)) (hl:l.length=8) (hq:q.length+17<=131072) :
  F_conn_Conn_reads p 6 0 0 l D T P M C S B E=some (D,T,P,M,C.set p.toNat ((head,true,list,dec,par,-1),streams,peer,enc,q++fb 6 1 0 l,false,code,stopped,highest,m,cl,send,room,ev,feeding),S,B,E):=by
 have hr:F_part_Read 6 0 0 l=some (l,0,0,0,0,[],false,false,false,false,false,0):=read_ping (a:=false) hl
 have hpi:F_part_Ping l true=some (6,1,0,l):=by
  unfold F_part_Ping pingF
  rw [pingB_8 hl];rfl
 unfold F_conn_Conn_reads
 rw [begun_on hC rfl,Option.bind_some]
 dsimp only
 rw [cond_false,hr,Option.bind_some]
 dsimp only
 rw [cond_false,cond_false,cond_false,show ((6:Int)==0)=false from rfl,cond_false,show ((6:Int)==1)=false from rfl,cond_false,show ((6:Int)==9)=false from rfl,cond_false,show ((6:Int)==3)=false from rfl,cond_false,show ((6:Int)==4)=false from rfl,cond_false,show ((6:Int)==6)=true from rfl,cond_true,Bool.not_false,cond_true,hpi,Option.bind_some]
 dsimp only
 rw [lays_at hC ⟨by decide,by decide,by decide,by omega⟩ (by omega),Option.bind_some]
end
theorem hello_eq:F_wlvlaw23_hello=some (preL++fb 4 0 0 []):=by
 have hs:F_wlvref10_Settings [] false=some (4,0,0,[]):=settings_eq false
 have hp:F_wlvref10_Put 4 0 0 []=some (fb 4 0 0 [],0):=put_eq ⟨by decide,by decide,by decide,by simp⟩
 unfold F_wlvlaw23_hello
 rw [hs,Option.bind_some,hp,Option.bind_some]
 unfold chk
 rw [show (Nat.ble (List.length ([80,82,73,32,42,32,72,84,84,80,47,50,46,48,13,10,13,10,83,77,13,10,13,10]:List Int)) (List.length ([80,82,73,32,42,32,72,84,84,80,47,50,46,48,13,10,13,10,83,77,13,10,13,10]:List Int))&&true)=true from rfl,cond_true,List.take_length]
 rw [show (Nat.blt 0 (fb 4 0 0 []).length&&decide ((([80,82,73,32,42,32,72,84,84,80,47,50,46,48,13,10,13,10,83,77,13,10,13,10]:List Int).length+(fb 4 0 0 []).length)*1<=140737488355328)&&decide (([80,82,73,32,42,32,72,84,84,80,47,50,46,48,13,10,13,10,83,77,13,10,13,10]:List Int).length+(fb 4 0 0 []).length<=maxLen))=true from by decide +kernel,cond_true]
theorem framed_eq {k fl s:Int} {body:List Int} (h:okFb k fl s body):F_wlvlaw23_framed k fl s body=some (fb k fl s body):=by
 unfold F_wlvlaw23_framed
 rw [put_eq h,Option.bind_some]
section
variable {p : Int} {M M' : List CnM} {C C' : List CnC} {S S' : List CnS} {P P' P'' : List PD} {D D' : List DD} {T T' : List TD} {B B' : List BD} {E E' : List ED}
variable {r : Int × Bool × Int × Int × Int × Int} {streams enc code highest m send room : Int} {peer : Int × Int × Int × Int × Int × Int} {q cl : List Int} {dead stopped feeding : Bool} {ev : List CnE}
theorem take_all {n:Int} (hC:getI C p=some (r,streams,peer,enc,q,dead,code,stopped,highest,m,cl,send,room,ev,feeding)) (hn:(q.length:Int)<=n) (hq:q.length<=100000000) :
  F_conn_Conn_Take p n C=some (q,C.set p.toNat (r,streams,peer,enc,[],dead,code,stopped,highest,m,cl,send,room,ev,feeding)):=by
 have hp:=getI_nn hC
 have hm:minI (maxI n 0) (q.length:Int)=(q.length:Int):=by
  unfold minI maxI
  rw [decide_eq_false (show ¬ (0:Int) > n by omega),cond_false]
  by_cases h:(q.length:Int) < n
  ·rw [decide_eq_true h,cond_true]
  ·rw [decide_eq_false h,cond_false];omega
 have hc1:cutI q 0 (q.length:Int)=some q:=by
  have:=cut_all q (by omega)
  rw [Int.sub_zero,wB64 (by omega) (by omega)] at this
  exact this
 have hc2:cutI q (q.length:Int) (q.length:Int)=some []:=by
  have:=cutI_end q [] (m:=(q.length:Int)) (n:=((q++[]).length:Int)) rfl rfl
  rw [List.append_nil] at this
  exact this
 have hk:∀ l:List Int,l.length<=100000000->F_slices_Clone_byte_byte l=some l:=fun l hl=>by
  unfold F_slices_Clone_byte_byte
  rw [Nat.ble_eq_true_of_le hl,cond_true]
 unfold F_conn_Conn_Take chk
 simp only [hp,cond_true,hC,Option.bind_some,hm,hc1,hc2,hk q hq,hk [] (by simp)]
theorem queue_at (hC:getI C p=some (r,streams,peer,enc,q,dead,code,stopped,highest,m,cl,send,room,ev,feeding)):F_conn_Conn_Queue p C=some (q.length:Int):=by
 have hp:=getI_nn hC
 unfold F_conn_Conn_Queue chk
 simp only [hp,cond_true,hC,Option.bind_some]
theorem dead_at (hC:getI C p=some (r,streams,peer,enc,q,dead,code,stopped,highest,m,cl,send,room,ev,feeding)):F_conn_Conn_Dead p C=some (dead,code):=by
 have hp:=getI_nn hC
 unfold F_conn_Conn_Dead chk
 simp only [hp,cond_true,hC,Option.bind_some]
end
def pg:List Int:=[1,2,0,0,0,0,0,0]
theorem okS0:okFb 4 0 0 []:=⟨by decide,by decide,by decide,by simp⟩
theorem okP0 {l:List Int} (h:l.length=8):okFb 6 0 0 l:=⟨by decide,by decide,by decide,by omega⟩
theorem hello_step {p:Int} {M:List CnM} {C:List CnC} {S:List CnS} {P:List PD} {D:List DD} {T:List TD} {B:List BD} {E:List ED} {b b0 rest:List Int} {i1 i2 i3 head list dec par blk streams enc code highest m send room t z l w:Int} {q cl:List Int} {stopped feeding:Bool} {ev:List CnE} {y:List CnE×List DD×List TD×List PD×List CnM×List CnC×List CnS×List BD×List ED}
  (hC:getI C p=some ((head,false,list,dec,par,blk),streams,(4096,1,2147483647,65535,16384,2147483647),enc,q,false,code,stopped,highest,m,cl,send,room,ev,feeding)) (hP:getI P par=some (16384,fb 4 0 0 []++rest)) (hM:getI M m=some []) (hE:getI E enc=some (t,w,4096)) (hT:getI T t=some ([],z,l)) (hq:q.length+9<=131072) (hr:rest.length<=1000000000)
  (hy:loopC (F_conn_Conn_Feed_G1 p) (3,(b,4,0,0,[],D,T.set t.toNat ([],z,4096),P.set par.toNat (16384,rest),M,C.set p.toNat ((head,true,list,dec,par,blk),streams,(4096,1,2147483647,65535,16384,2147483647),enc,q++fb 4 1 0 [],false,code,stopped,highest,m,cl,send,room,ev,feeding),S,B,E))=some y) :
  loopC (F_conn_Conn_Feed_G1 p) (3,(b,i1,i2,i3,b0,D,T,P,M,C,S,B,E))=some y:=
 loop_inr (feed_step hC (next_fb (getI_nn hP) okS0 hP hr) (creads_settings hC hM hE hT hq) (getI_set hC)) hy
theorem ping_step {p:Int} {M:List CnM} {C:List CnC} {S:List CnS} {P:List PD} {D:List DD} {T:List TD} {B:List BD} {E:List ED} {b b0 rest x:List Int} {i1 i2 i3 head list dec par streams enc code highest m send room:Int} {peer:Int×Int×Int×Int×Int×Int} {q cl:List Int} {stopped feeding:Bool} {ev:List CnE} {y:List CnE×List DD×List TD×List PD×List CnM×List CnC×List CnS×List BD×List ED}
  (hC:getI C p=some ((head,true,list,dec,par,-1),streams,peer,enc,q,false,code,stopped,highest,m,cl,send,room,ev,feeding)) (hx:x.length=8) (hP:getI P par=some (16384,fb 6 0 0 x++rest)) (hq:q.length+17<=131072) (hr:rest.length<=1000000000)
  (hy:loopC (F_conn_Conn_Feed_G1 p) (3,(b,6,0,0,x,D,T,P.set par.toNat (16384,rest),M,C.set p.toNat ((head,true,list,dec,par,-1),streams,peer,enc,q++fb 6 1 0 x,false,code,stopped,highest,m,cl,send,room,ev,feeding),S,B,E))=some y) :
  loopC (F_conn_Conn_Feed_G1 p) (3,(b,i1,i2,i3,b0,D,T,P,M,C,S,B,E))=some y:=
 loop_inr (feed_step hC (next_fb (getI_nn hP) (okP0 hx) hP hr) (creads_ping hC hx hq) (getI_set hC)) hy
theorem short_end {p:Int} {M:List CnM} {C:List CnC} {S:List CnS} {P:List PD} {D:List DD} {T:List TD} {B:List BD} {E:List ED} {b b0 X:List Int} {i1 i2 i3 head list dec par blk streams enc code highest m send room:Int} {begun:Bool} {peer:Int×Int×Int×Int×Int×Int} {q cl:List Int} {dead stopped feeding:Bool} {ev:List CnE}
  (hC:getI C p=some ((head,begun,list,dec,par,blk),streams,peer,enc,q,dead,code,stopped,highest,m,cl,send,room,ev,feeding)) (hP:getI P par=some (16384,X)) (hX:X.length < 9) :
  loopC (F_conn_Conn_Feed_G1 p) (3,(b,i1,i2,i3,b0,D,T,P,M,C,S,B,E))=some (ev,D,T,P,M,C.set p.toNat ((head,begun,list,dec,par,blk),streams,peer,enc,q,dead,code,stopped,highest,m,cl,send,room,[],false),S,B,E):=
 loop_inr (feed_short hC (next_short (getI_nn hP) hP hX)) (loop_inl (feed_end hC))
abbrev ch (n list:Int) (T:List TD) (D:List DD) (P:List PD) (M:List CnM) (E:List ED) (q:List Int):CnC:=((24,true,list,(D.length:Int),(P.length:Int),-1),n,(4096,1,2147483647,65535,16384,2147483647),(E.length:Int),q,false,0,false,0,(M.length:Int),[],65535,65535,[],false)
theorem cfirst_any (D:List DD) (T:List TD) (P:List PD) (M:List CnM) (C:List CnC) (S:List CnS) (B:List BD) (E:List ED):F_wlvlaw23_first D T P M C S B E =
  some (true,D++[((T.length:Int)+1,false)],T++[([],(0,4096)),([],(0,4096))],P++[(16384,[])],M++[[]],C++[ch 3 1000 T D P M E []],S,B,E++[((T.length:Int),4096,4096)]):=by
 have hpi:F_wlvref10_Ping [1,2] false=some (6,0,0,pg):=rfl
 have hput:F_wlvref10_Put 6 0 0 pg=some (fb 6 0 0 pg,0):=put_eq (okP0 rfl)
 have h17:(fb 6 0 0 pg).length=17:=by rw [fb_len];rfl
 have h9:(fb 4 0 0 []).length=9:=by rw [fb_len];rfl
 unfold F_wlvlaw23_first
 rw [cnew_at,Option.bind_some]
 dsimp only
 rw [show eqI (C.length:Int) (-1)=false from beq_eq_false_iff_ne.2 (by omega),cond_false,queue_at getI_new,Option.bind_some]
 have h21:(fb 4 0 0 (setsB 3 1000)).length=21:=by rw [fb_len,setsB_len]
 rw [h21,show (((21:Nat):Int) != 21)=false from rfl,cond_false,take_all getI_new (by rw [h21];decide) (by rw [h21];decide),Option.bind_some,hpi,Option.bind_some]
 dsimp only
 rw [hput,Option.bind_some,hello_eq,Option.bind_some,set_new]
 dsimp only
 unfold chk
 rw [ckB (by rw [List.length_append,h9,h17];decide),cond_true,List.append_assoc]
 have hPn:getI (P++[((16384:Int),([]:List Int))]) (P.length:Int)=some (16384,[]):=getI_new
 have hfeed:=feed_at (Y:=fb 4 0 0 []++fb 6 0 0 pg) (getI_nn hPn) hPn (by rw [List.length_append,h9,h17];decide)
 rw [set_new,List.nil_append] at hfeed
 have hTn:getI (T++[(([]:List Fld),((0:Int),(4096:Int))),([],(0,4096))]) (T.length:Int)=some ([],0,4096):=getI_new0
 have hTs:(T++[(([]:List Fld),((0:Int),(4096:Int))),([],(0,4096))]).set (T.length:Int).toNat ([],(0,4096))=T++[([],(0,4096)),([],(0,4096))]:=set_same hTn
 rw [cfeed_first (z:=([],D++[((T.length:Int)+1,false)],T++[([],(0,4096)),([],(0,4096))],P++[(16384,[])],M++[[]],C++[ch 3 1000 T D P M E (([]++fb 4 1 0 [])++fb 6 1 0 pg)],S,B,E++[((T.length:Int),4096,4096)])) getI_new (by rw [List.length_append,h9,h17];decide) hfeed ?_,Option.bind_some]
 ·dsimp only
  have h26:(([]++fb 4 1 0 [])++fb 6 1 0 pg).length=26:=by rw [List.length_append,List.length_append,fb_len,fb_len];rfl
  rw [take_all getI_new (by rw [h26];decide) (by rw [h26];decide),Option.bind_some,set_new]
  dsimp only
  rw [dead_at getI_new,Option.bind_some,h26]
  rfl
 ·rw [set_new]
  refine hello_step (t:=(T.length:Int)) (z:=0) (l:=4096) (w:=4096) getI_new getI_new getI_new getI_new hTn (by simp) (by rw [h17];decide) ?_
  rw [hTs,set_new,set_new]
  refine ping_step (rest:=[]) getI_new (x:=pg) rfl (by rw [List.append_nil];exact getI_new) (by rw [List.length_append,fb_len];decide) (by simp) ?_
  rw [set_new,set_new]
  refine (short_end getI_new getI_new (by simp)).trans ?_
  rw [set_new]
section
variable {p : Int} {M M' : List CnM} {C C' : List CnC} {S S' : List CnS} {P P' P'' : List PD} {D D' : List DD} {T T' : List TD} {B B' : List BD} {E E' : List ED}
variable {head list dec par blk streams enc code highest m send room : Int} {begun : Bool} {peer : Int × Int × Int × Int × Int × Int} {q cl : List Int} {dead stopped feeding : Bool} {ev : List CnE}
theorem tells_at {k s c:Int} {fs:List Fld} {d:List Int} {l e o:Bool} (hC:getI C p=some ((head,begun,list,dec,par,blk),streams,peer,enc,q,dead,code,stopped,highest,m,cl,send,room,ev,true)) (he:ev.length<=1000000) :
  F_conn_Conn_tells p k s c fs d l e o C=some (C.set p.toNat ((head,begun,list,dec,par,blk),streams,peer,enc,q,dead,code,stopped,highest,m,cl,send,room,ev++[(k,s,c,fs,d,l,e,o)],true)):=by
 have hp:=getI_nn hC
 have hpp:eqI p p=true:=beq_self_eq_true p
 have hm:maxLen=9223372036854775807:=rfl
 have hck:(decide ((ev.length+([(k,s,c,fs,d,l,e,o)]:List CnE).length)*80<=140737488355328)&&decide (ev.length+([(k,s,c,fs,d,l,e,o)]:List CnE).length<=maxLen))=true:=by
  rw [Bool.and_eq_true,decide_eq_true_eq,decide_eq_true_eq]
  simp only [List.length_cons,List.length_nil]
  omega
 unfold F_conn_Conn_tells chk
 simp only [hp,cond_true,hC,Option.bind_some,hpp,hck]
end
theorem read9 (fl:Int) (l:List Int):F_part_Read 9 fl 1 l=(F_bytes_Clone l).bind fun x=>some (x,0,0,0,0,[],false,false,(decide ((bits .and .i64 fl 4) > 0)),false,false,0):=rfl
section
variable {p : Int} {M M' : List CnM} {C C' : List CnC} {S S' : List CnS} {P P' P'' : List PD} {D D' : List DD} {T T' : List TD} {B B' : List BD} {E E' : List ED}
variable {head list dec par blk streams enc code highest m send room : Int} {begun : Bool} {peer : Int × Int × Int × Int × Int × Int} {q cl : List Int} {dead stopped feeding : Bool} {ev : List CnE}
theorem goes_more {s w c:Int} {e b8 b9:Bool} {body d:List Int} {i3 i4 i5 i6:Int} {l7:List (Int×Int)} (hC:getI C p=some ((head,begun,list,dec,par,blk),streams,peer,enc,q,dead,code,stopped,highest,m,cl,send,room,ev,feeding)) (hB:getI B blk=some (s,w,c,e,body)) (hl:body.length+d.length<=32768) :
  F_conn_Conn_goesOn p d i3 i4 i5 i6 l7 b8 b9 false D T P M C S B=some (D,T,P,M,C,S,B.set blk.toNat (s,w,c,e,body++d)):=by
 have hp:=getI_nn hC
 have hb:=getI_nn hB
 have he:eqI blk blk=true:=beq_self_eq_true blk
 unfold F_conn_Conn_goesOn chk
 simp only [hp,cond_true,hC,Option.bind_some,hb,hB,he,getI_set hB]
 rw [ckB (by omega),cond_true,decide_eq_false (by rw [List.length_append];omega),cond_false,cond_false]
theorem misplaced_cont {fl s w c:Int} {e:Bool} {body b:List Int} (hC:getI C p=some ((head,true,list,dec,par,blk),streams,peer,enc,q,dead,code,stopped,highest,m,cl,send,room,ev,feeding)) (hb:getI B blk=some (s,w,c,e,b)):F_conn_Conn_misplaced p 9 fl s body C B=some (false,C):=by
 have hp:=getI_nn hC
 have hbn:=getI_nn hb
 have hb1:eqI blk (-1)=false:=by
  have:0<=blk:=of_decide_eq_true hbn
  exact beq_eq_false_iff_ne.2 (by omega)
 have hC1:C.set p.toNat ((head,true,list,dec,par,blk),streams,peer,enc,q,dead,code,stopped,highest,m,cl,send,room,ev,feeding)=C:=set_same hC
 have hss:(s != s)=false:=by simp
 unfold F_conn_Conn_misplaced chk
 simp only [hp,cond_true,hC,Option.bind_some,Bool.not_true,cond_false,hC1,hb1,Bool.not_false]
 rw [show ((9:Int) != 9)=false from rfl,cond_false]
 simp only [hbn,cond_true,hb,Option.bind_some,hss]
theorem creads_cont {w c:Int} {e:Bool} {body d:List Int} (hC:getI C p=some ((head,true,list,dec,par,blk),streams,peer,enc,q,dead,code,stopped,highest,m,cl,send,room,ev,feeding)) (hB:getI B blk=some (1,w,c,e,body)) (hl:body.length+d.length<=32768) :
  F_conn_Conn_reads p 9 0 1 d D T P M C S B E=some (D,T,P,M,C,S,B.set blk.toNat (1,w,c,e,body++d),E):=by
 have hr:F_part_Read 9 0 1 d=some (d,0,0,0,0,[],false,false,false,false,false,0):=by
  rw [read9,clone_eq (by omega),Option.bind_some,show decide (bits .and .i64 0 4 > 0)=false from by decide +kernel]
 unfold F_conn_Conn_reads
 rw [misplaced_cont hC hB,Option.bind_some]
 dsimp only
 rw [cond_false,hr,Option.bind_some]
 dsimp only
 rw [cond_false,cond_false,cond_false,show ((9:Int)==0)=false from rfl,cond_false,show ((9:Int)==1)=false from rfl,cond_false,show ((9:Int)==9)=true from rfl,cond_true,goes_more hC hB hl,Option.bind_some]
theorem creads_first {d:List Int} (hC:getI C p=some ((head,true,list,dec,par,-1),10,peer,enc,q,dead,code,false,0,m,cl,send,room,ev,feeding)) (hM:getI M m=some []) (hl:d.length<=16384) :
  F_conn_Conn_reads p 1 0 1 d D T P M C S B E=some (D,T,P,M,C.set p.toNat ((head,true,list,dec,par,(B.length:Int)),10,peer,enc,q,dead,code,false,1,m,cl,send,room,ev,feeding),S,B++[(1,0,0,false,d)],E):=by
 have hp:=getI_nn hC
 have hr:F_part_Read 1 0 1 d=some (d,0,0,0,0,[],false,false,false,false,false,0):=by
  rw [read1,bodied_head rfl (by decide +kernel) (by decide +kernel) hl,show decide (bits .and .i64 0 1 > 0)=false from by decide +kernel,show decide (bits .and .i64 0 4 > 0)=false from by decide +kernel]
 have h1:=getI_set (x:=((head,true,list,dec,par,(-1:Int)),(10:Int),peer,enc,q,dead,code,false,(1:Int),m,cl,send,room,ev,feeding)) hC
 have h2:=getI_set (x:=((head,true,list,dec,par,(B.length:Int)),(10:Int),peer,enc,q,dead,code,false,(1:Int),m,cl,send,room,ev,feeding)) hC
 have hg:=goes_more (D:=D) (T:=T) (P:=P) (M:=M) (S:=S) (d:=d) (i3:=0) (i4:=0) (i5:=0) (i6:=0) (l7:=[]) (b8:=false) (b9:=false) h2 (B:=B++[(1,0,0,false,[])]) getI_new (by simp;omega)
 rw [set_new,List.nil_append] at hg
 have hh:F_conn_Conn_headers p 1 d 0 0 0 0 [] false false false D T P M C S B=some (D,T,P,M,C.set p.toNat ((head,true,list,dec,par,(B.length:Int)),10,peer,enc,q,dead,code,false,1,m,cl,send,room,ev,feeding),S,B++[(1,0,0,false,d)]):=by
  unfold F_conn_Conn_headers
  rw [show ((Int.tmod 1 2)==0)=false from rfl,cond_false]
  unfold chk
  simp only [hp,cond_true,hC,Option.bind_some]
  rw [show decide ((1:Int) > 0)=true from rfl,cond_true,open_none h1 hM,Option.bind_some]
  simp only [h1,Option.bind_some]
  rw [show decide ((([]:List Int).length:Int) >= 10)=false from rfl,cond_false,cond_false,set_two,hg,Option.bind_some]
 unfold F_conn_Conn_reads
 rw [begun_on hC rfl,Option.bind_some]
 dsimp only
 rw [cond_false,hr,Option.bind_some]
 dsimp only
 rw [cond_false,cond_false,cond_false,show ((1:Int)==0)=false from rfl,cond_false,show ((1:Int)==1)=true from rfl,cond_true,hh,Option.bind_some]
end
theorem chk_t {R:Type} {b:Bool} {r:Option R} (h:b=true):chk b r=r:=by rw [h];rfl
def methodF:Fld:=([58,109,101,116,104,111,100],[71,69,84],false)
theorem stat2:F_stat_Get 2=some ([58,109,101,116,104,111,100],[71,69,84],false,true):=by decide +kernel
theorem at2 {l:List Int} {t i3 i4:Int} {l5:List Fld} {T:List TD}:F_unpack_block_at l t i3 i4 l5 2 T=some ([58,109,101,116,104,111,100],[71,69,84],false,true,l,t,i3,i4,l5):=by
 unfold F_unpack_block_at
 rw [show decide ((2:Int)<=61)=true from rfl,cond_true,stat2]
 rfl
theorem or0:∀ q:Fin 256,bits .or .u8 0 (q.val:Int)=q.val:=by decide +kernel
theorem or0' {x:Int} (h0:0<=x) (h1:x < 256):bits .or .u8 0 x=x:=by
 have:=or0 ⟨x.toNat,by omega⟩
 rw [show ((x.toNat:Nat):Int)=x by omega] at this
 exact this
theorem or128:∀ q:Fin 128,bits .or .i64 (q.val:Int) 128=q.val+128:=by decide +kernel
theorem or128' {x:Int} (h0:0<=x) (h1:x < 128):bits .or .i64 x 128=x+128:=by
 have:=or128 ⟨x.toNat,by omega⟩
 rw [show ((x.toNat:Nat):Int)=x by omega] at this
 exact this
theorem head0:bits .andNot .u8 0 127=0:=by decide +kernel
theorem head1:bits .or .u8 0 127=127:=by decide +kernel
def pintR:Nat->Int->List Int
 | 0,m=>[m]
 | k+1,m=>cond (decide (m < 128)) [m] ((m % 128+128)::pintR k (m / 128))
theorem pintR_len:∀ (k:Nat) (m:Int),(pintR k m).length<=k+1
 | 0,_=>Nat.le_refl _
 | k+1,m=>by
  unfold pintR
  cases decide (m < 128) with
  | true=>show 1<=_;omega
  | false=>
   have:=pintR_len k (m / 128)
   show (pintR k (m / 128)).length+1<=_
   omega
def pintL (n:Int):List Int:=cond (decide (n < 127)) [n] (127::pintR 4 (n - 127))
theorem pintL_len (n:Int):(pintL n).length<=6:=by
 unfold pintL
 cases decide (n < 127) with
 | true=>show 1<=_;omega
 | false=>
  have:=pintR_len 4 (n - 127)
  show (pintR 4 (n - 127)).length+1<=_
  omega
theorem down {k:Nat} {m:Int} (h0:0<=m) (h:m < 128 ^ (k+1+1)):0<=m / 128 /\ m / 128 < 128 ^ (k+1):=by
 refine ⟨by omega,Int.ediv_lt_of_lt_mul (by omega) ?_⟩
 rw [Int.pow_succ] at h
 exact h
theorem pintR_no {k:Nat} {m:Int} (h:¬ m < 128):pintR (k+1) m=(m % 128+128)::pintR k (m / 128):=by
 show cond (decide (m < 128)) [m] _=_
 rw [decide_eq_false h];rfl
theorem one_pint {m:Int} (h0:0<=m) (h1:m < 34359738368):IntKind.u8.wrap (bits .or .i64 (Int.tmod m 128) 128)=m % 128+128 /\ IntKind.i64.wrap (Int.tdiv m 128)=m / 128 /\ IntKind.u8.wrap (bits .or .i64 (bits .and .i64 m 127) 128)=m % 128+128 /\ Int.fdiv m (2 ^ 7)=m / 128:=by
 have e1:Int.tmod m 128=m % 128:=by rw [Int.tmod_eq_emod_of_nonneg h0]
 have e2:Int.tdiv m 128=m / 128:=by rw [Int.tdiv_eq_ediv_of_nonneg h0]
 have e3:Int.fdiv m (2 ^ 7)=m / 128:=by rw [Int.fdiv_eq_ediv_of_nonneg _ (by decide)];rfl
 have e4:IntKind.u8.wrap (m % 128+128)=m % 128+128:=u8_id (by omega) (by omega)
 rw [e1,e2,e3,i64_and127,or128' (by omega) (by omega),e4,wrap_in (by omega) (by omega)]
 exact ⟨rfl,rfl,rfl,rfl⟩
theorem ones7:F_pint_ones 7=some 127:=by decide +kernel
theorem sh7:IntKind.i64.wrap ((IntKind.i64.wrap (1*2 ^ (min (IntKind.u64.wrap 7).toNat 64))) - 1)=127:=by decide +kernel
def textL (s:List Int):List Int:=pintL (s.length:Int)++s
def fieldL (f:List Int×List Int×Bool):List Int:=[0]++(textL f.1++textL f.2.1)
def blockL (l:List (List Int×List Int×Bool)):List Int:=l.flatMap fieldL
theorem block_cons (f:List Int×List Int×Bool) (l:List (List Int×List Int×Bool)):blockL (f::l)=fieldL f++blockL l:=rfl
theorem ck40 {n m:Nat} (h:n+m<=1000000):(decide ((n+m)*40<=140737488355328)&&decide (n+m<=maxLen))=true:=by
 have hm:maxLen=9223372036854775807:=rfl
 rw [Bool.and_eq_true,decide_eq_true_iff,decide_eq_true_iff]
 omega
theorem and127u:∀ q:Fin 256,bits .and .u8 (q.val:Int) 127=((q.val % 128:Nat):Int):=by decide +kernel
theorem and127i:∀ q:Fin 256,bits .and .i64 (IntKind.i64.wrap (q.val:Int)) 127=((q.val % 128:Nat):Int):=by decide +kernel
theorem and15i:bits .and .i64 (IntKind.i64.wrap 0) 15=0:=by decide +kernel
theorem and128u:∀ q:Fin 128,bits .and .u8 (q.val:Int) 128=0:=by decide +kernel
theorem and127u' {x:Int} (h0:0<=x) (h1:x < 256):bits .and .u8 x 127=x % 128:=by
 have:=and127u ⟨x.toNat,by omega⟩
 rw [show ((⟨x.toNat,by omega⟩:Fin 256).val:Int)=x by show ((x.toNat:Nat):Int)=x;omega] at this
 rw [this]
 show ((x.toNat % 128:Nat):Int)=x % 128
 omega
theorem and127i' {x:Int} (h0:0<=x) (h1:x < 256):bits .and .i64 (IntKind.i64.wrap x) 127=x % 128:=by
 have:=and127i ⟨x.toNat,by omega⟩
 rw [show ((⟨x.toNat,by omega⟩:Fin 256).val:Int)=x by show ((x.toNat:Nat):Int)=x;omega] at this
 rw [this]
 show ((x.toNat % 128:Nat):Int)=x % 128
 omega
theorem and128u' {x:Int} (h0:0<=x) (h1:x < 128):bits .and .u8 x 128=0:=by
 have:=and128u ⟨x.toNat,by omega⟩
 rw [show ((⟨x.toNat,by omega⟩:Fin 128).val:Int)=x by show ((x.toNat:Nat):Int)=x;omega] at this
 exact this
theorem ones4:F_pint_ones 4=some 15:=by decide +kernel
theorem sh0:IntKind.i64.wrap (7*(IntKind.i64.wrap (1 - 1)))=0:=by decide +kernel
theorem sh1:IntKind.i64.wrap (7*(IntKind.i64.wrap (2 - 1)))=7:=by decide +kernel
theorem iz2:IntKind.i64.wrap (1+1)=2:=by decide +kernel
theorem iz3:IntKind.i64.wrap (2+1)=3:=by decide +kernel
theorem iz1:IntKind.i64.wrap (2 - 1)=1:=by decide +kernel
theorem iz22:IntKind.i64.wrap (3 - 1)=2:=by decide +kernel
theorem gz0 {α:Type} (x:α) (l:List α):getI (x::l) 0=some x:=rfl
theorem gz1 {α:Type} (x y:α) (l:List α):getI (x::y::l) 1=some y:=rfl
theorem gz2 {α:Type} (x y z:α) (l:List α):getI (x::y::z::l) 2=some z:=rfl
theorem pint_get {n:Int} (h0:0<=n) (h1:n<=16384) (r:List Int):F_pint_Get (pintL n++r) 7=some (n,((pintL n).length:Int),0):=by
  unfold pintL
  by_cases hn:n < 127
  · rw [decide_eq_true hn,cond_true]
    show F_pint_Get (n::r) 7=some (n,1,0)
    unfold F_pint_Get
    rw [ones7]
    simp only [Option.bind_some]
    rw [show ((127:Int)==0)=false from rfl,cond_false,show (((n::r).length:Int)==0)=false by rw [List.length_cons];exact beq_eq_false_iff_ne.2 (by omega),cond_false,gz0,Option.bind_some,and127i' (by omega) (by omega),show n % 128=n by omega,decide_eq_true hn,cond_true]
    rfl
  · rw [decide_eq_false hn,cond_false]
    by_cases hm:n - 127 < 128
    · have e : pintR 4 (n - 127) = [n - 127] := by
        show cond (decide (n - 127 < 128)) [n - 127] _=_
        rw [decide_eq_true hm];rfl
      rw [e]
      show F_pint_Get (127::(n - 127)::r) 7=some (n,2,0)
      have hl:((127::(n - 127)::r).length:Int)=(r.length:Int)+2:=by simp only [List.length_cons];omega
      unfold F_pint_Get
      rw [ones7]
      simp only [Option.bind_some]
      rw [show ((127:Int)==0)=false from rfl,cond_false,hl,show (((r.length:Int)+2)==0)=false from beq_eq_false_iff_ne.2 (by omega),cond_false,gz0,Option.bind_some,and127i' (by omega) (by omega),show (127:Int) % 128=127 from rfl,show decide ((127:Int) < 127)=false from rfl,cond_false,show ((1:Int)==(r.length:Int)+2)=false from beq_eq_false_iff_ne.2 (by omega),cond_false,gz1,Option.bind_some,sh0]
      unfold chk
      rw [show decide ((0:Int)<=0)=true from rfl,cond_true,and127u' (by omega) (by omega),show (n - 127) % 128=n - 127 by omega,show (min (0:Int).toNat 64)=0 from rfl,Int.pow_zero,Int.mul_one,wB64 (x:=n - 127) (by omega) (by omega),wB64 (x:=n - 127) (by omega) (by omega),wB64 (x:=127+(n - 127)) (by omega) (by omega),show 127+(n - 127)=n by omega,decide_eq_false (show ¬ n > 2147483647 by omega),cond_false,iz2,show ((2:Int)==6)=false from rfl,cond_false,iz1,gz1,Option.bind_some,decide_eq_false (show ¬ n - 127 >= 128 by omega),cond_false]
      rfl
    · have e : pintR 4 (n - 127) = [(n - 127) % 128 + 128, (n - 127) / 128] := by
        rw [pintR_no hm]
        have hq:(n - 127) / 128 < 128:=by omega
        show _::cond (decide ((n - 127) / 128 < 128)) [(n - 127) / 128] _=_
        rw [decide_eq_true hq];rfl
      rw [e]
      obtain ⟨a,ha⟩:∃ a,(n - 127) % 128=a:=⟨_,rfl⟩
      obtain ⟨b,hb⟩:∃ b,(n - 127) / 128=b:=⟨_,rfl⟩
      have ha0:0<=a /\ a < 128:=by omega
      have hb0:0<=b /\ b < 128:=by omega
      have hab:127+a+b*128=n:=by omega
      rw [ha,hb]
      show F_pint_Get (127::(a+128)::b::r) 7=some (n,3,0)
      have hl:((127::(a+128)::b::r).length:Int)=(r.length:Int)+3:=by simp only [List.length_cons];omega
      have hloop:loopC (F_pint_Get_G1 (127::(a+128)::b::r)) (0,127+a,2)=some (n,3,0):=by
        refine loop_inl ?_
        unfold F_pint_Get_G1 F_pint_Get_G1_0 chk
        dsimp only
        rw [show hasN [0] 0=true from rfl,cond_true,hl,show ((2:Int)==(r.length:Int)+3)=false from beq_eq_false_iff_ne.2 (by omega),cond_false,gz2,Option.bind_some,sh1,show decide ((0:Int)<=7)=true from rfl,cond_true,and127u' (by omega) (by omega),show b % 128=b by omega,show (min (7:Int).toNat 64)=7 from rfl,wB64 (x:=b) (by omega) (by omega),show b*2 ^ 7=b*128 from rfl,wB64 (x:=b*128) (by omega) (by omega),hab,wB64 (x:=n) (by omega) (by omega),decide_eq_false (show ¬ n > 2147483647 by omega),cond_false,iz3,show ((3:Int)==6)=false from rfl,cond_false,iz22,gz2,Option.bind_some,decide_eq_false (show ¬ b >= 128 by omega),cond_false]
      unfold F_pint_Get
      rw [ones7]
      simp only [Option.bind_some]
      rw [show ((127:Int)==0)=false from rfl,cond_false,hl,show (((r.length:Int)+3)==0)=false from beq_eq_false_iff_ne.2 (by omega),cond_false,gz0,Option.bind_some,and127i' (by omega) (by omega),show (127:Int) % 128=127 from rfl,show decide ((127:Int) < 127)=false from rfl,cond_false,show ((1:Int)==(r.length:Int)+3)=false from beq_eq_false_iff_ne.2 (by omega),cond_false,gz1,Option.bind_some,sh0]
      unfold chk
      rw [show decide ((0:Int)<=0)=true from rfl,cond_true,and127u' (by omega) (by omega),show (a+128) % 128=a by omega,show (min (0:Int).toNat 64)=0 from rfl,Int.pow_zero,Int.mul_one,wB64 (x:=a) (by omega) (by omega),wB64 (x:=a) (by omega) (by omega),wB64 (x:=127+a) (by omega) (by omega),decide_eq_false (show ¬ 127+a > 2147483647 by omega),cond_false,iz2,show ((2:Int)==6)=false from rfl,cond_false,iz1,gz1,Option.bind_some,decide_eq_true (show a+128 >= 128 by omega),cond_true]
      exact hloop
theorem cut_app {α:Type} (a b:List α):cutI (a++b) (a.length:Int) ((a++b).length:Int)=some b:=by
 unfold cutI
 rw [decide_eq_true (by omega),decide_eq_true (by rw [List.length_append];omega),decide_eq_true (by omega)]
 simp only [Bool.and_self,cond_true]
 rw [Int.toNat_natCast,Int.toNat_natCast,List.take_length,List.drop_left]
theorem cut_one {α:Type} (x:α) (X:List α):cutI (x::X) 1 ((x::X).length:Int)=some X:=cut_app [x] X
theorem cut_hd {α:Type} (a b:List α):cutI (a++b) 0 (a.length:Int)=some a:=by
 unfold cutI
 rw [decide_eq_true (by omega),decide_eq_true (by omega),decide_eq_true (by rw [List.length_append];omega)]
 simp only [Bool.and_self,cond_true]
 rw [Int.toNat_natCast]
 show some (((a++b).take a.length).drop 0)=_
 rw [List.drop_zero,List.take_left]
section
variable (p room total : Int) (acc : List (List Int × List Int × Bool))
theorem number_get {n:Int} (h0:0<=n) (h1:n<=16384) (r:List Int):F_unpack_block_number (pintL n++r) p room total acc 7=some (n,true,r,p,room,total,acc):=by
 unfold F_unpack_block_number
 rw [pint_get h0 h1,Option.bind_some,show ((0:Int) != 0)=false from rfl,cond_false]
 dsimp only
 rw [cut_app,Option.bind_some]
theorem pintL_hd {n:Int} (h0:0<=n):∃ x l,pintL n=x::l /\ 0<=x /\ x < 128:=by
 unfold pintL
 by_cases h:n < 127
 ·rw [decide_eq_true h]
  exact ⟨n,[],rfl,h0,by omega⟩
 ·rw [decide_eq_false h]
  exact ⟨127,_,rfl,by omega,by omega⟩
theorem text_get {s:List Int} (hs:s.length<=16384) (r:List Int):F_unpack_block_text (textL s++r) p room total acc=some (s,true,r,p,room,total,acc):=by
 have hn:=number_get p room total acc (n:=(s.length:Int)) (by omega) (by omega) (s++r)
 rw [<-List.append_assoc] at hn
 obtain ⟨x,l,hx,hx0,hx1⟩:=pintL_hd (n:=(s.length:Int)) (by omega)
 have hl:((textL s++r).length:Int) > 0:=by unfold textL;rw [hx];simp only [List.cons_append,List.length_cons];omega
 have hg:getI (textL s++r) 0=some x:=by unfold textL;rw [hx];rfl
 unfold F_unpack_block_text
 rw [decide_eq_true hl,cond_true,hg,Option.bind_some]
 show ((F_unpack_block_number ((pintL (s.length:Int)++s)++r) p room total acc 7).bind _)=_
 rw [hn,Option.bind_some]
 dsimp only
 rw [decide_eq_false (show ¬ (s.length:Int) > 16384 by omega),Bool.not_true,Bool.or_false,cond_false,decide_eq_false (show ¬ (s.length:Int) > ((s++r).length:Int) by rw [List.length_append];omega),cond_false,cut_hd,Option.bind_some,cut_app,Option.bind_some,and128u' hx0 hx1]
 rfl
theorem literal_get {f:List Int×List Int×Bool} (h1:f.1.length<=16384) (h2:f.2.1.length<=16384) (r:List Int) (lT:List (List (List Int×List Int×Bool)×Int×Int)):F_unpack_block_literal (fieldL f++r) p room total acc 4 lT=some (f.1,f.2.1,false,true,r,p,room,total,acc):=by
 have e:fieldL f++r=0::(textL f.1++(textL f.2.1++r)):=by unfold fieldL;simp
 have hg:F_pint_Get (0::(textL f.1++(textL f.2.1++r))) 4=some (0,1,0):=by
  unfold F_pint_Get
  rw [ones4]
  simp only [Option.bind_some]
  rw [show ((15:Int)==0)=false from rfl,cond_false,show (((0::(textL f.1++(textL f.2.1++r))).length:Int)==0)=false by rw [List.length_cons];exact beq_eq_false_iff_ne.2 (by omega),cond_false,gz0,Option.bind_some,and15i,show decide ((0:Int) < 15)=true from rfl,cond_true]
  rfl
 have hnum:F_unpack_block_number (0::(textL f.1++(textL f.2.1++r))) p room total acc 4=some (0,true,textL f.1++(textL f.2.1++r),p,room,total,acc):=by
  unfold F_unpack_block_number
  rw [hg,Option.bind_some,show ((0:Int) != 0)=false from rfl,cond_false]
  dsimp only
  rw [cut_one,Option.bind_some]
 unfold F_unpack_block_literal
 rw [e,hnum,Option.bind_some]
 dsimp only
 rw [Bool.not_true,cond_false,show decide ((0:Int) > 0)=false from rfl,cond_false,text_get p room total acc h1,Option.bind_some]
 dsimp only
 rw [Bool.not_true,cond_false,text_get p room total acc h2,Option.bind_some]
end
def clr (f:Fld):Fld:=(f.1,f.2.1,false)
def szF (f:Fld):Int:=(f.1.length:Int)+(f.2.1.length:Int)+32
def sumF:List Fld->Int
 | []=>0
 | f::l=>szF f+sumF l
def okF (l:List Fld):Prop:=∀ f∈l,f.1.length<=16384 /\ f.2.1.length<=16384
theorem sumF_le {l:List Fld} (h:okF l):0<=sumF l /\ sumF l<=32800*(l.length:Int):=by
 induction l with
 | nil=>exact ⟨Int.le_refl _,Int.le_refl _⟩
 | cons f l ih=>
  obtain ⟨h1,h2⟩:=ih fun g hg=>h g (by simp [hg])
  obtain ⟨h3,h4⟩:=h f (by simp)
  have e:sumF (f::l)=(f.1.length:Int)+(f.2.1.length:Int)+32+sumF l:=rfl
  rw [e,List.length_cons]
  omega
theorem size_eq {f:Fld} (h1:f.1.length<=16384) (h2:f.2.1.length<=16384) (b:Bool):F_stat_Size f.1 f.2.1 b=some (szF f):=by
 unfold F_stat_Size szF
 rw [wB64 (x:=(f.1.length:Int)+(f.2.1.length:Int)) (by omega) (by omega),wB64 (by omega) (by omega)]
section
variable {p room total : Int} {acc : List Fld} {lT : List TD}
theorem keep_eq {l:List Int} {f:Fld} (h1:f.1.length<=16384) (h2:f.2.1.length<=16384) (b:Bool) (h0:0<=total) (hr:total+szF f<=room) (hm:room<=1073741824) (ha:acc.length<=100000) :
  F_unpack_block_keep l p room total acc f.1 f.2.1 b=some (l,p,room,total+szF f,acc++[(f.1,f.2.1,b)]):=by
 unfold F_unpack_block_keep
 have hs:0<=szF f:=by unfold szF;omega
 rw [size_eq h1 h2,Option.bind_some,wB64 (x:=total+szF f) (by omega) (by omega),decide_eq_true hr,cond_true]
 unfold chk
 rw [ck40 (by simp;omega),cond_true]
theorem fieldL_ne (f:Fld) (l:List Int):∃ r,fieldL f++l=0::r:=⟨(textL f.1++textL f.2.1)++l,by unfold fieldL;rw [List.append_assoc,List.singleton_append]⟩
theorem at0_nil {ok some_:Bool} {told:Int} {s1 s2:List Int} {nv:Bool}:F_unpack_block_read_G1 (0,ok,told,some_,s1,s2,nv,[],p,room,total,acc,lT)=some (.inl (true,[],p,room,total,acc,lT)):=rfl
theorem at0_cons {ok some_:Bool} {told:Int} {s1 s2:List Int} {nv:Bool} {f:Fld} {r:List Int} (h1:f.1.length<=16384) (h2:f.2.1.length<=16384) :
  F_unpack_block_read_G1 (0,ok,told,some_,s1,s2,nv,fieldL f++r,p,room,total,acc,lT)=some (.inr (4,(true,told,some_,f.1,f.2.1,false,r,p,room,total,acc,lT))):=by
 have hl:=literal_get p room total acc h1 h2 r lT
 obtain ⟨q,hq⟩:=fieldL_ne f r
 rw [hq] at hl ⊢
 unfold F_unpack_block_read_G1 F_unpack_block_read_G1_0
 dsimp only
 rw [show hasN [0] 0=true from rfl,cond_true,show (((0::q).length:Int)==0)=false by rw [List.length_cons];exact beq_eq_false_iff_ne.2 (by omega),cond_false,gz0,Option.bind_some,show decide ((0:Int) >= 128)=false from rfl,cond_false,show decide ((0:Int) >= 64)=false from rfl,cond_false,show decide ((0:Int) >= 32)=false from rfl,cond_false,hl,Option.bind_some]
 rfl
theorem at4 {some_:Bool} {told:Int} {f:Fld} {b:Bool} {r:List Int} (h1:f.1.length<=16384) (h2:f.2.1.length<=16384) (h0:0<=total) (hr:total+szF f<=room) (hm:room<=1073741824) (ha:acc.length<=100000) :
  F_unpack_block_read_G1 (4,true,told,some_,f.1,f.2.1,b,r,p,room,total,acc,lT)=some (.inr (0,(true,told,true,f.1,f.2.1,b,r,p,room,total+szF f,acc++[(f.1,f.2.1,b)],lT))):=by
 unfold F_unpack_block_read_G1 F_unpack_block_read_G1_4
 dsimp only
 rw [show hasN [0] 4=false from rfl,cond_false,show hasN [1] 4=false from rfl,cond_false,show hasN [2] 4=false from rfl,cond_false,show hasN [3] 4=false from rfl,cond_false,show hasN [4] 4=true from rfl,cond_true,Bool.not_true,cond_false,keep_eq h1 h2 b h0 hr hm ha,Option.bind_some]
theorem read_loop (hm:room<=1073741824):∀ (fs:List Fld) (ok some_:Bool) (told:Int) (s1 s2:List Int) (nv:Bool) (total:Int) (acc:List Fld),okF fs->0<=total->total+sumF fs<=room->acc.length+fs.length<=100000 ->
  loopC F_unpack_block_read_G1 (0,ok,told,some_,s1,s2,nv,blockL fs,p,room,total,acc,lT)=some (true,[],p,room,total+sumF fs,acc++fs.map clr,lT)
 | [],ok,some_,told,s1,s2,nv,total,acc,_,_,_,_=>by
  refine loop_inl (at0_nil.trans ?_)
  rw [show sumF []=0 from rfl,Int.add_zero,List.map_nil,List.append_nil]
 | f::fs,ok,some_,told,s1,s2,nv,total,acc,hf,h0,hs,ha=>by
  obtain ⟨h1,h2⟩:=hf f (by simp)
  have hf2:okF fs:=fun g hg=>hf g (by simp [hg])
  obtain ⟨p1,p2⟩:=sumF_le hf2
  have e:sumF (f::fs)=szF f+sumF fs:=rfl
  have hz:0<=szF f:=by unfold szF;omega
  rw [e] at hs
  rw [List.length_cons] at ha
  rw [block_cons]
  refine loop_inr (at0_cons h1 h2) (loop_inr (at4 h1 h2 h0 (by omega) hm (by omega)) ((read_loop hm fs true true told f.1 f.2.1 false (total+szF f) (acc++[clr f]) hf2 (by omega) (by omega) (by rw [List.length_append];show acc.length+1+_<=_;omega)).trans ?_))
  rw [e,List.append_assoc,Int.add_assoc]
  rfl
end
def isOp (n:Int):Bool:=((n==1)||(n==2))||(n==3)
section
variable {p : Int} {M M' : List CnM} {C C' : List CnC} {S S' : List CnS} {P P' P'' : List PD} {D D' : List DD} {T T' : List TD} {B B' : List BD} {E E' : List ED}
variable {r : Int × Bool × Int × Int × Int × Int} {streams enc code highest m send room : Int} {peer : Int × Int × Int × Int × Int × Int} {q cl : List Int} {dead stopped feeding : Bool} {ev : List CnE}
theorem sopen_at {j st a b:Int} (hS:getI S j=some (st,a,b)):F_conn_stream_open j S=some (isOp st):=by
 have hj:=getI_nn hS
 unfold F_conn_stream_open chk isOp
 simp only [hj,cond_true,hS,Option.bind_some]
 cases h1:(st==1) <;> cases h2:(st==2) <;> cases h3:(st==3) <;> rfl
theorem state_at {n j st a b:Int} {mm:CnM} (hC:getI C p=some (r,streams,peer,enc,q,dead,code,stopped,highest,m,cl,send,room,ev,feeding)) (hM:getI M m=some mm) (h1:1<=n) (h2:(Int.tmod n 2==0)=false) (h3:n<=highest) (hj:getZ (mapGet mm n) (-1:Int)=j) (hS:getI S j=some (st,a,b)):F_conn_Conn_State p n M C S=some st:=by
 have hp:=getI_nn hC
 have hjn:=getI_nn hS
 have hj1:eqI j (-1)=false:=by
  have:0<=j:=of_decide_eq_true hjn
  exact beq_eq_false_iff_ne.2 (by omega)
 unfold F_conn_Conn_State chk
 simp only [hp,cond_true,hC,Option.bind_some,hM]
 rw [decide_eq_false (show ¬ n < 1 by omega),h2,show (false||false)=false from rfl,cond_false,decide_eq_false (show ¬ n > highest by omega),cond_false,hj,hj1,Bool.not_false,cond_true,hjn,cond_true,hS,Option.bind_some]
theorem turns_keep {n j st st' a b:Int} {mm:CnM} (hC:getI C p=some (r,streams,peer,enc,q,dead,code,stopped,highest,m,cl,send,room,ev,feeding)) (hM:getI M m=some mm) (hj:getZ (mapGet mm n) (-1:Int)=j) (hS:getI S j=some (st,a,b)) (ho:isOp st=false \/ isOp st'=true) :
  F_conn_Conn_turns p n st' M C S=some (M,C,S.set j.toNat (st',a,b)):=by
 have hp:=getI_nn hC
 have hjn:=getI_nn hS
 have hj1:eqI j (-1)=false:=by
  have:0<=j:=of_decide_eq_true hjn
  exact beq_eq_false_iff_ne.2 (by omega)
 unfold F_conn_Conn_turns chk
 simp only [hp,cond_true,hC,Option.bind_some,hM,hj,hj1,cond_false,sopen_at hS,hjn,hS,sopen_at (getI_set (x:=(st',a,b)) hS)]
 rcases ho with h | h
 ·rw [h,Bool.not_false,cond_true]
 ·rw [h]
  cases isOp st <;> rfl
theorem begins_open {n:Int} {mm:CnM} (hC:getI C p=some (r,streams,peer,enc,q,dead,code,stopped,highest,m,cl,send,room,ev,feeding)) (hM:getI M m=some mm) (hg:getZ (mapGet (mapSet mm n (S.length:Int)) n) (-1:Int)=(S.length:Int)) :
  F_conn_Conn_begins p n 1 M C S=some (M.set m.toNat (mapSet mm n (S.length:Int)),C,S++[(1,peer.2.2.2.1,65535)]):=by
 have hp:=getI_nn hC
 have ht:=turns_keep (n:=n) (st':=1) (S:=S++[(1,peer.2.2.2.1,65535)]) hC (getI_set (x:=mapSet mm n (S.length:Int)) hM) hg getI_new (.inr rfl)
 rw [set_new] at ht
 unfold F_conn_Conn_begins chk
 simp only [hp,cond_true,hC,Option.bind_some,hM,ht]
end
section
variable {p : Int} {M M' : List CnM} {C C' : List CnC} {S S' : List CnS} {P P' P'' : List PD} {D D' : List DD} {T T' : List TD} {B B' : List BD} {E E' : List ED}
variable {r : Int × Bool × Int × Int × Int × Int} {streams enc code highest m send room : Int} {peer : Int × Int × Int × Int × Int × Int} {q cl : List Int} {dead stopped feeding : Bool} {ev : List CnE}
end
section
variable {p : Int} {M M' : List CnM} {C C' : List CnC} {S S' : List CnS} {P P' P'' : List PD} {D D' : List DD} {T T' : List TD} {B B' : List BD} {E E' : List ED}
variable {head list dec par blk streams enc code highest m send room : Int} {begun : Bool} {peer : Int × Int × Int × Int × Int × Int} {q cl : List Int} {dead stopped feeding : Bool} {ev : List CnE}
end
section
variable {p : Int} {M M' : List CnM} {C C' : List CnC} {S S' : List CnS} {P P' P'' : List PD} {D D' : List DD} {T T' : List TD} {B B' : List BD} {E E' : List ED}
variable {head list dec par blk streams enc code highest m send room : Int} {begun : Bool} {peer : Int × Int × Int × Int × Int × Int} {q cl : List Int} {dead stopped feeding : Bool} {ev : List CnE}
theorem recv_idle:F_life_Recv 0 1 false=some (1,false,false,0):=by decide +kernel
end
abbrev pr0:Int×Int×Int×Int×Int×Int:=(4096,1,2147483647,65535,16384,2147483647)
theorem wput_eq {v:Int} (h0:0<=v) (h1:v<=16000):F_wlvref4_Put 0 7 v=some (pintL v,0):=by
  unfold F_wlvref4_Put
  have hg:(((decide ((7:Int) < 1)||decide ((7:Int) > 8))||decide (v < 0))||decide (v > 2147483647))=false:=by
    rw [decide_eq_false (show ¬ v < 0 by omega),decide_eq_false (show ¬ v > 2147483647 by omega)];rfl
  rw [hg,cond_false,sh7]
  unfold chk
  rw [show decide ((0:Int)<=IntKind.u64.wrap 7)=true from by decide +kernel,cond_true,u8_id (x:=127) (by omega) (by omega),head0,head1]
  unfold pintL
  by_cases hn:v < 127
  · rw [decide_eq_true hn,cond_true,cond_true,u8_id (by omega) (by omega),or0' h0 (by omega)]
  · rw [decide_eq_false hn,cond_false,cond_false,wB64 (x:=v - 127) (by omega) (by omega)]
    obtain ⟨_,_,o3,o4⟩:=one_pint (m:=v - 127) (by omega) (by omega)
    by_cases hm:v - 127 < 128
    · have hl : loopC F_wlvref4_Put_L12 (v - 127, [127]) = some (.inr (v - 127, [127])) := loop_inl (by
        unfold F_wlvref4_Put_L12
        dsimp only
        rw [decide_eq_false (by omega),cond_false])
      rw [join_inr hl]
      unfold F_wlvref4_Put_J11 chk
      dsimp only
      rw [ckB (by simp),cond_true,u8_id (x:=v - 127) (by omega) (by omega)]
      show _=some (127::cond (decide (v - 127 < 128)) [v - 127] _,0)
      rw [decide_eq_true hm];rfl
    · have hl : loopC F_wlvref4_Put_L12 (v - 127, [127]) = some (.inr ((v - 127) / 128, [127] ++ [(v - 127) % 128 + 128])) := loop_inr (s' := ((v - 127) / 128, [127] ++ [(v - 127) % 128 + 128])) (by
        unfold F_wlvref4_Put_L12 chk
        dsimp only
        rw [decide_eq_true (by omega),cond_true,ckB (by simp),cond_true,o3,o4]) (loop_inl (by
        unfold F_wlvref4_Put_L12
        dsimp only
        rw [decide_eq_false (by omega),cond_false]))
      rw [join_inr hl]
      unfold F_wlvref4_Put_J11 chk
      dsimp only
      rw [ckB (by simp),cond_true,u8_id (x:=(v - 127) / 128) (by omega) (by omega),pintR_no (k:=3) hm]
      show _=some (127::((v - 127) % 128+128)::cond (decide ((v - 127) / 128 < 128)) [(v - 127) / 128] _,0)
      rw [decide_eq_true (by omega)];rfl
def xF (v:Nat):Fld:=([120],List.replicate v 118,false)
def blkB (v:Nat):List Int:=130::fieldL (xF v)
theorem blkB_eq (v:Nat):blkB v=([130,0,1,120]++pintL (v:Int))++List.replicate v 118:=by
 unfold blkB fieldL xF textL
 simp only [List.length_replicate]
 rw [show pintL (([120]:List Int).length:Int)=[1] from by decide +kernel]
 simp
theorem blkB_len (v:Nat):v<=(blkB v).length /\ (blkB v).length<=v+10:=by
 have:=pintL_len (v:Int)
 rw [blkB_eq]
 simp only [List.length_append,List.length_replicate,List.length_cons,List.length_nil]
 omega
theorem and130:bits .and .i64 (IntKind.i64.wrap 130) 127=2:=by decide +kernel
theorem get130 (r:List Int):F_pint_Get (130::r) 7=some (2,1,0):=by
 unfold F_pint_Get
 rw [ones7]
 simp only [Option.bind_some]
 rw [show ((127:Int)==0)=false from rfl,cond_false,show (((130::r).length:Int)==0)=false by rw [List.length_cons];exact beq_eq_false_iff_ne.2 (by omega),cond_false,gz0,Option.bind_some,and130,show decide ((2:Int) < 127)=true from rfl,cond_true]
 rfl
set_option maxRecDepth 20000 in
theorem readX {v:Nat} (hv:v<=16000) {t:Int} {T:List TD}:F_unpack_block_read (blkB v) t 16384 0 [] T=some (true,[],t,16384,0+szF methodF+sumF [xF v],[methodF,xF v],T):=by
 have hx1:(xF v).1.length<=16384:=by show ([120]:List Int).length<=16384;decide
 have hx2:(xF v).2.1.length<=16384:=by unfold xF;rw [List.length_replicate];omega
 have hsz:szF methodF=42:=by decide
 have hsx:sumF [xF v]=(v:Int)+33:=by
  show szF (xF v)+0=_
  unfold szF xF
  simp only [List.length_replicate,List.length_cons,List.length_nil]
  omega
 have hl:=read_loop (p:=t) (room:=16384) (lT:=T) (by decide) [xF v] true true 0 methodF.1 methodF.2.1 false (0+szF methodF) ([]++[methodF]) (fun g hg=>by rw [List.mem_singleton.1 hg];exact ⟨hx1,hx2⟩) (by rw [hsz];omega) (by rw [hsz,hsx];omega) (by simp)
 have hb:blockL [xF v]=fieldL (xF v):=by unfold blockL;simp
 rw [hb] at hl
 unfold F_unpack_block_read
 have h0:(((blkB v).length:Int)==0)=false:=beq_eq_false_iff_ne.2 (by unfold blkB;rw [List.length_cons];omega)
 have hg:getI (blkB v) 0=some 130:=rfl
 refine (join_inr (s:=(1,(false,0,false,[],[],false,blkB v,t,16384,0,[],T))) (by
  rw [h0,cond_false,hg,Option.bind_some];rfl)).trans
  (loop_inr (s':=(4,(true,0,false,methodF.1,methodF.2.1,false,fieldL (xF v),t,16384,0,[],T))) ?_
   (loop_inr (at4 (f:=methodF) (by decide) (by decide) (by decide) (by rw [hsz];decide) (by decide) (by simp)) hl))
 show F_unpack_block_read_G1_1 (false,0,false,[],[],false,blkB v,t,16384,0,[],T)=_
 unfold F_unpack_block_read_G1_1 F_unpack_block_number blkB
 dsimp only
 rw [get130,Option.bind_some]
 dsimp only
 rw [show ((0:Int) != 0)=false from rfl,cond_false,cut_one,Option.bind_some,Option.bind_some]
 dsimp only
 rw [cond_true,at2,Option.bind_some]
 rfl
theorem decodeX {v:Nat} (hv:v<=16000) {D:List DD} {T:List TD} {d t:Int} (hD:getI D d=some (t,false)):F_unpack_Dec_Decode d (blkB v) 16384 D T=some ([methodF,xF v],0,D,T):=by
 have hd:=getI_nn hD
 have hl:=(blkB_len v).2
 have hsz:szF methodF=42:=by decide
 have hsx:sumF [xF v]=(v:Int)+33:=by
  show szF (xF v)+0=_
  unfold szF xF
  simp only [List.length_replicate,List.length_cons,List.length_nil]
  omega
 have hk:F_slices_Clone_byte_byte (blkB v)=some (blkB v):=by
  unfold F_slices_Clone_byte_byte
  rw [Nat.ble_eq_true_of_le (by omega),cond_true]
 unfold F_unpack_Dec_Decode
 rw [chk_t hd,hD,Option.bind_some]
 dsimp only
 rw [cond_false,hk,Option.bind_some,chk_t hd,Option.bind_some,readX hv,Option.bind_some]
 dsimp only
 rw [Bool.not_true,cond_false,hsz,hsx,decide_eq_false (by omega),cond_false]
section
variable {p : Int} {M M' : List CnM} {C C' : List CnC} {S S' : List CnS} {P P' P'' : List PD} {D D' : List DD} {T T' : List TD} {B B' : List BD} {E E' : List ED}
variable {head list dec par blk streams enc code highest m send room : Int} {begun : Bool} {peer : Int × Int × Int × Int × Int × Int} {q cl : List Int} {dead stopped feeding : Bool} {ev : List CnE}
theorem ends_new {k:Int} {b:List Int} {fs:List Fld} (hC:getI C p=some ((head,true,list,dec,par,-1),10,peer,enc,q,false,code,false,1,m,cl,send,room,ev,true)) (hM:getI M m=some []) (hB:getI B k=some (1,0,0,false,b)) (hD:F_unpack_Dec_Decode dec b list D T=some (fs,0,D,T)) (he:ev.length<=1000000) :
  F_conn_Conn_ends p k D T P M C S B=some (D,T,P,M.set m.toNat [(1,(S.length:Int))],C.set p.toNat ((head,true,list,dec,par,-1),10,peer,enc,q,false,code,false,1,m,cl,send,room,ev++[(1,1,0,fs,[],false,false,false)],true),S++[(1,peer.2.2.2.1,65535)]):=by
 have hp:=getI_nn hC
 have hb:=getI_nn hB
 have hbe:=begins_open (n:=1) (S:=S) hC hM rfl
 have hte:=tells_at (k:=1) (s:=1) (c:=0) (fs:=fs) (d:=[]) (l:=false) (e:=false) (o:=false) hC he
 unfold F_conn_Conn_ends chk
 simp only [hp,cond_true,hC,Option.bind_some,hb,hB,hD]
 rw [show (((0:Int) != 0)&&((0:Int) != 3))=false from rfl,cond_false,show ((0:Int)==0)=true from rfl,cond_true,recv_idle,Option.bind_some,show ((0:Int)==3)=false from rfl]
 simp only [hbe,Option.bind_some,hte]
 rfl
theorem goes_whole {b8 b9:Bool} {body d:List Int} {i3 i4 i5 i6:Int} {l7:List (Int×Int)} {fs:List Fld} (hC:getI C p=some ((head,true,list,dec,par,blk),10,peer,enc,q,false,code,false,1,m,cl,send,room,ev,true)) (hM:getI M m=some []) (hB:getI B blk=some (1,0,0,false,body)) (hl:body.length+d.length<=32768) (hD:F_unpack_Dec_Decode dec (body++d) list D T=some (fs,0,D,T)) (he:ev.length<=1000000) :
  F_conn_Conn_goesOn p d i3 i4 i5 i6 l7 b8 b9 true D T P M C S B=some (D,T,P,M.set m.toNat [(1,(S.length:Int))],C.set p.toNat ((head,true,list,dec,par,-1),10,peer,enc,q,false,code,false,1,m,cl,send,room,ev++[(1,1,0,fs,[],false,false,false)],true),S++[(1,peer.2.2.2.1,65535)],B.set blk.toNat (1,0,0,false,body++d)):=by
 have hp:=getI_nn hC
 have hb:=getI_nn hB
 have hbb:eqI blk blk=true:=beq_self_eq_true blk
 have h2:=getI_set (x:=((head,true,list,dec,par,(-1:Int)),(10:Int),peer,enc,q,false,code,false,(1:Int),m,cl,send,room,ev,true)) hC
 have hB2:=getI_set (x:=((1:Int),(0:Int),(0:Int),false,body++d)) hB
 have hen:=ends_new (P:=P) (S:=S) h2 hM hB2 hD he
 rw [set_two] at hen
 unfold F_conn_Conn_goesOn chk
 simp only [hp,cond_true,hC,Option.bind_some,hb,hB,hbb,getI_set hB]
 rw [ckB (by omega),cond_true,decide_eq_false (by rw [List.length_append];omega),cond_false,hen,Option.bind_some]
theorem creads_last {body d:List Int} {fs:List Fld} (hC:getI C p=some ((head,true,list,dec,par,blk),10,peer,enc,q,false,code,false,1,m,cl,send,room,ev,true)) (hM:getI M m=some []) (hB:getI B blk=some (1,0,0,false,body)) (hl:body.length+d.length<=32768) (hD:F_unpack_Dec_Decode dec (body++d) list D T=some (fs,0,D,T)) (he:ev.length<=1000000) :
  F_conn_Conn_reads p 9 4 1 d D T P M C S B E=some (D,T,P,M.set m.toNat [(1,(S.length:Int))],C.set p.toNat ((head,true,list,dec,par,-1),10,peer,enc,q,false,code,false,1,m,cl,send,room,ev++[(1,1,0,fs,[],false,false,false)],true),S++[(1,peer.2.2.2.1,65535)],B.set blk.toNat (1,0,0,false,body++d),E):=by
 have hr:F_part_Read 9 4 1 d=some (d,0,0,0,0,[],false,false,true,false,false,0):=by
  rw [read9,clone_eq (by omega),Option.bind_some,show decide (bits .and .i64 4 4 > 0)=true from by decide +kernel]
 unfold F_conn_Conn_reads
 rw [misplaced_cont hC hB,Option.bind_some]
 dsimp only
 rw [cond_false,hr,Option.bind_some]
 dsimp only
 rw [cond_false,cond_false,cond_false,show ((9:Int)==0)=false from rfl,cond_false,show ((9:Int)==1)=false from rfl,cond_false,show ((9:Int)==9)=true from rfl,cond_true,goes_whole hC hM hB hl hD he,Option.bind_some]
theorem creads_whole {b:List Int} {fs:List Fld} (hC:getI C p=some ((head,true,list,dec,par,-1),10,peer,enc,q,false,code,false,0,m,cl,send,room,ev,true)) (hM:getI M m=some []) (hl:b.length<=16384) (hD:F_unpack_Dec_Decode dec b list D T=some (fs,0,D,T)) (he:ev.length<=1000000) :
  F_conn_Conn_reads p 1 4 1 b D T P M C S B E=some (D,T,P,M.set m.toNat [(1,(S.length:Int))],C.set p.toNat ((head,true,list,dec,par,-1),10,peer,enc,q,false,code,false,1,m,cl,send,room,ev++[(1,1,0,fs,[],false,false,false)],true),S++[(1,peer.2.2.2.1,65535)],B++[(1,0,0,false,b)],E):=by
 have hp:=getI_nn hC
 have hr:F_part_Read 1 4 1 b=some (b,0,0,0,0,[],false,false,true,false,false,0):=by
  rw [read1,bodied_head rfl (by decide +kernel) (by decide +kernel) hl,show decide (bits .and .i64 4 1 > 0)=false from by decide +kernel,show decide (bits .and .i64 4 4 > 0)=true from by decide +kernel]
 have h1:=getI_set (x:=((head,true,list,dec,par,(-1:Int)),(10:Int),peer,enc,q,false,code,false,(1:Int),m,cl,send,room,ev,true)) hC
 have h2:=getI_set (x:=((head,true,list,dec,par,(B.length:Int)),(10:Int),peer,enc,q,false,code,false,(1:Int),m,cl,send,room,ev,true)) hC
 have hgo:=goes_whole (P:=P) (S:=S) (i3:=0) (i4:=0) (i5:=0) (i6:=0) (l7:=[]) (b8:=false) (b9:=false) h2 hM (getI_new (l:=B) (y:=((1:Int),(0:Int),(0:Int),false,([]:List Int)))) (d:=b) (by simp;omega) (by rw [List.nil_append];exact hD) he
 rw [set_two,set_new,List.nil_append] at hgo
 have hh:F_conn_Conn_headers p 1 b 0 0 0 0 [] false false true D T P M C S B=some (D,T,P,M.set m.toNat [(1,(S.length:Int))],C.set p.toNat ((head,true,list,dec,par,-1),10,peer,enc,q,false,code,false,1,m,cl,send,room,ev++[(1,1,0,fs,[],false,false,false)],true),S++[(1,peer.2.2.2.1,65535)],B++[(1,0,0,false,b)]):=by
  unfold F_conn_Conn_headers
  rw [show ((Int.tmod 1 2)==0)=false from rfl,cond_false]
  unfold chk
  simp only [hp,cond_true,hC,Option.bind_some]
  rw [show decide ((1:Int) > 0)=true from rfl,cond_true,open_none h1 hM,Option.bind_some]
  simp only [h1,Option.bind_some]
  rw [show decide ((([]:List Int).length:Int) >= 10)=false from rfl,cond_false,cond_false,set_two,hgo,Option.bind_some]
 unfold F_conn_Conn_reads
 rw [begun_on hC rfl,Option.bind_some]
 dsimp only
 rw [cond_false,hr,Option.bind_some]
 dsimp only
 rw [cond_false,cond_false,cond_false,show ((1:Int)==0)=false from rfl,cond_false,show ((1:Int)==1)=true from rfl,cond_true,hh,Option.bind_some]
end
theorem okH {k fl:Int} {l:List Int} (hk:0<=k /\ k<=9) (hf:0<=fl /\ fl<=4) (h:l.length<=16384):okFb k fl 1 l:=⟨by omega,by omega,by decide,h⟩
section
variable {p : Int} {M M' : List CnM} {C C' : List CnC} {S S' : List CnS} {P P' P'' : List PD} {D D' : List DD} {T T' : List TD} {B B' : List BD} {E E' : List ED}
variable {list dec par blk streams enc code highest m send room : Int} {begun : Bool} {peer : Int × Int × Int × Int × Int × Int} {q cl : List Int} {dead stopped feeding : Bool} {ev : List CnE}
theorem hello_feed {t w:Int} (hC:getI C p=some ((0,false,list,dec,par,-1),streams,pr0,enc,q,false,code,stopped,highest,m,cl,send,room,ev,feeding)) (hP:getI P par=some (16384,[])) (hM:getI M m=some []) (hE:getI E enc=some (t,w,4096)) (hT:getI T t=some ([],0,4096)) (hq:q.length<=1000) :
  F_conn_Conn_Feed p (preL++fb 4 0 0 []) D T P M C S B E=some ([],D,T,P,M,C.set p.toNat ((24,true,list,dec,par,-1),streams,pr0,enc,q++fb 4 1 0 [],false,code,stopped,highest,m,cl,send,room,[],false),S,B,E):=by
 have h9:(fb 4 0 0 []).length=9:=by rw [fb_len];rfl
 have hfeed:=feed_at (Y:=fb 4 0 0 []) (getI_nn hP) hP (by rw [h9];decide)
 rw [List.nil_append] at hfeed
 have hP0:(P.set par.toNat (16384,fb 4 0 0 [])).set par.toNat (16384,[])=P:=by rw [set_two];exact set_same hP
 have hT0:T.set t.toNat ([],0,4096)=T:=set_same hT
 refine cfeed_first hC (by rw [h9];decide) hfeed ?_
 refine hello_step (rest:=[]) (t:=t) (z:=0) (l:=4096) (w:=w) (getI_set hC) (by rw [List.append_nil];exact getI_set hP) hM hE hT (by omega) (by simp) ?_
 rw [hT0,hP0,set_two]
 refine (short_end (getI_set hC) hP (by simp)).trans ?_
 rw [set_two]
theorem feed_one {k fl s:Int} {d:List Int} {list' dec' blk' streams' enc' code' highest' m' send' room':Int} {peer':Int×Int×Int×Int×Int×Int} {q' cl':List Int} {stopped':Bool} {ev':List CnE}
  (hok:okFb k fl s d) (hC:getI C p=some ((24,begun,list,dec,par,blk),streams,peer,enc,q,false,code,stopped,highest,m,cl,send,room,ev,feeding)) (hP:getI P par=some (16384,[]))
  (hR:F_conn_Conn_reads p k fl s d D T P M (C.set p.toNat ((24,begun,list,dec,par,blk),streams,peer,enc,q,false,code,stopped,highest,m,cl,send,room,[],true)) S B E=some (D',T',P,M',C',S',B',E'))
  (hC':getI C' p=some ((24,true,list',dec',par,blk'),streams',peer',enc',q',false,code',stopped',highest',m',cl',send',room',ev',true)) :
  F_conn_Conn_Feed p (fb k fl s d) D T P M C S B E=some (ev',D',T',P,M',C'.set p.toNat ((24,true,list',dec',par,blk'),streams',peer',enc',q',false,code',stopped',highest',m',cl',send',room',[],false),S',B',E'):=by
 have hd:=hok.2.2.2
 have hf:=feed_at (Y:=fb k fl s d) (getI_nn hP) hP (by rw [fb_len];simp only [List.length_nil];omega)
 rw [List.nil_append] at hf
 have hP2:getI (P.set par.toNat (16384,fb k fl s d)) par=some (16384,fb k fl s d++[]):=by rw [List.append_nil];exact getI_set hP
 have hN:=next_fb (getI_nn hP) hok hP2 (by simp)
 have hP0:(P.set par.toNat (16384,fb k fl s d)).set par.toNat (16384,[])=P:=by rw [set_two];exact set_same hP
 rw [hP0] at hN
 have hst:=feed_step (b:=fb k fl s d) (i1:=0) (i2:=0) (i3:=0) (b0:=[]) (getI_set hC) hN hR hC'
 have hen:=short_end (b:=fb k fl s d) (b0:=d) (i1:=k) (i2:=fl) (i3:=s) (D:=D') (T:=T') (P:=P) (M:=M') (S:=S') (B:=B') (E:=E') hC' hP (by simp)
 exact cfeed_at hC hf (loop_inr hst hen)
end
abbrev cnD (list dec par blk enc hi m:Int) (q:List Int):CnC:=((24,true,list,dec,par,blk),10,pr0,enc,q,false,0,false,hi,m,[],65535,65535,[],false)
def BInv (b:List Int) (pd dec par enc m:Int) (q:List Int) (pc:Int) (Y:CnC) (C:List CnC) (B:List BD) (i at_:Nat):Prop:=
 at_<=b.length /\ getI C pc=some Y /\ ((i=0 /\ at_=0 /\ getI C pd=some (cnD 16384 dec par (-1) enc 0 m q)) \/ (0 < i /\ ∃ k,getI C pd=some (cnD 16384 dec par k enc 1 m q) /\ getI B k=some (1,0,0,false,b.take at_)))
def kindOf (i:Nat):Int:=cond (decide (i=0)) 1 9
theorem cut_mid {b:List Int} {a n:Nat} (h:a+n<=b.length):cutI b (a:Int) ((a+n:Nat):Int)=some ((b.drop a).take n):=by
 unfold cutI
 rw [decide_eq_true (by omega),decide_eq_true (by omega),decide_eq_true (by omega)]
 simp only [Bool.and_self,cond_true,Int.toNat_natCast]
 rw [List.drop_take,Nat.add_sub_cancel_left]
theorem take_mid {b:List Int} {a n:Nat}:b.take a++(b.drop a).take n=b.take (a+n):=by rw [List.take_add]
section
variable {b : List Int} {pc pd dec par enc m : Int} {q : List Int} {Y : CnC} {M : List CnM} {S : List CnS} {P : List PD} {D : List DD} {T : List TD} {E : List ED}
theorem blocks_piece {C:List CnC} {B:List BD} {i at_ n:Nat} (hb:b.length<=16384) (hne:pc≠pd) (hP:getI P par=some (16384,[])) (hM:getI M m=some []) (h:BInv b pd dec par enc m q pc Y C B i at_) (hn:at_+n<=b.length) :
  ∃ C' B',F_conn_Conn_Feed pd (fb (kindOf i) 0 1 ((b.drop at_).take n)) D T P M C S B E=some ([],D,T,P,M,C',S,B',E) /\ BInv b pd dec par enc m q pc Y C' B' (i+1) (at_+n):=by
 obtain ⟨h1,hY,h2⟩:=h
 have hz:((b.drop at_).take n).length<=16384:=by rw [List.length_take,List.length_drop];omega
 rcases h2 with ⟨rfl,rfl,hC⟩ | ⟨hi,k,hC,hB⟩
 ·have hR:=creads_first (D:=D) (T:=T) (P:=P) (M:=M) (S:=S) (B:=B) (E:=E) (d:=(b.drop 0).take n) (getI_set (x:=((24,true,16384,dec,par,-1),10,pr0,enc,q,false,0,false,0,m,[],65535,65535,[],true)) hC) hM hz
  rw [set_two] at hR
  have hf:=feed_one (okH (by decide) (by decide) hz) hC hP hR (getI_set hC)
  rw [set_two] at hf
  refine ⟨_,_,hf,by omega,getI_ne (getI_nn hC) (fun e=>hne e.symm) hY,.inr ⟨by omega,_,getI_set hC,?_⟩⟩
  rw [List.drop_zero,Nat.zero_add]
  exact getI_new
 ·have hk:kindOf i=9:=by unfold kindOf;rw [decide_eq_false (by omega)];rfl
  have hR:=creads_cont (D:=D) (T:=T) (P:=P) (M:=M) (S:=S) (E:=E) (d:=(b.drop at_).take n) (getI_set (x:=((24,true,16384,dec,par,k),10,pr0,enc,q,false,0,false,1,m,[],65535,65535,[],true)) hC) hB (by rw [List.length_take];omega)
  have hf:=feed_one (okH (by decide) (by decide) hz) hC hP hR (getI_set hC)
  rw [set_two] at hf
  rw [hk]
  refine ⟨_,_,hf,by omega,getI_ne (getI_nn hC) (fun e=>hne e.symm) hY,.inr ⟨by omega,k,getI_set hC,?_⟩⟩
  rw [take_mid]
  exact getI_set hB
theorem blocks_last {C:List CnC} {B:List BD} {i at_:Nat} {fs:List Fld} (hb:b.length<=16384) (hne:pc≠pd) (hP:getI P par=some (16384,[])) (hM:getI M m=some []) (hD:F_unpack_Dec_Decode dec b 16384 D T=some (fs,0,D,T)) (h:BInv b pd dec par enc m q pc Y C B i at_) :
  ∃ C' B',F_conn_Conn_Feed pd (fb (kindOf i) 4 1 (b.drop at_)) D T P M C S B E=some ([(1,1,0,fs,[],false,false,false)],D,T,P,M.set m.toNat [(1,(S.length:Int))],C',S++[(1,65535,65535)],B',E) /\ getI C' pc=some Y /\ getI C' pd=some (cnD 16384 dec par (-1) enc 1 m q):=by
 obtain ⟨h1,hY,h2⟩:=h
 have hz:(b.drop at_).length<=16384:=by rw [List.length_drop];omega
 rcases h2 with ⟨rfl,rfl,hC⟩ | ⟨hi,k,hC,hB⟩
 ·have hR:=creads_whole (T:=T) (D:=D) (P:=P) (M:=M) (S:=S) (B:=B) (E:=E) (b:=b.drop 0) (fs:=fs) (getI_set (x:=((24,true,16384,dec,par,-1),10,pr0,enc,q,false,0,false,0,m,[],65535,65535,[],true)) hC) hM hz (by rw [List.drop_zero];exact hD) (by simp)
  rw [set_two] at hR
  have hf:=feed_one (okH (by decide) (by decide) hz) hC hP hR (getI_set hC)
  rw [set_two] at hf
  exact ⟨_,_,hf,getI_ne (getI_nn hC) (fun e=>hne e.symm) hY,getI_set hC⟩
 ·have hk:kindOf i=9:=by unfold kindOf;rw [decide_eq_false (by omega)];rfl
  have hR:=creads_last (T:=T) (D:=D) (P:=P) (M:=M) (S:=S) (B:=B) (E:=E) (d:=b.drop at_) (fs:=fs) (getI_set (x:=((24,true,16384,dec,par,k),10,pr0,enc,q,false,0,false,1,m,[],65535,65535,[],true)) hC) hM hB (by rw [List.length_take];omega) (by rw [List.take_append_drop];exact hD) (by simp)
  rw [set_two] at hR
  have hf:=feed_one (okH (by decide) (by decide) hz) hC hP hR (getI_set hC)
  rw [set_two] at hf
  rw [hk]
  exact ⟨_,_,hf,getI_ne (getI_nn hC) (fun e=>hne e.symm) hY,getI_set hC⟩
theorem ck80:(decide ((([]:List CnE).length+([]:List CnE).length)*80<=140737488355328)&&decide (([]:List CnE).length+([]:List CnE).length<=maxLen))=true:=by decide +kernel
theorem blocks_loop {cuts:List Int} {x14:Int×List DD×List TD×List PD×List CnM×List CnC×List ED} (hx:x14.1=pd) (hc:cuts.length<=40) (hb:b.length<=16384) (hne:pc≠pd) (hP:getI P par=some (16384,[])) (hM:getI M m=some []):∀ (k i at_:Nat) (C:List CnC) (B:List BD),i+k=cuts.length->BInv b pd dec par enc m q pc Y C B i at_ ->
    (∃ z,loopC (F_wlvlaw23_ConnBlocks_L26 cuts x14 b) ([],(at_:Int),kindOf i,(i:Int),D,T,P,M,C,S,B,E)=some (.inl (true,z))) \/
    ∃ at' C' B',loopC (F_wlvlaw23_ConnBlocks_L26 cuts x14 b) ([],(at_:Int),kindOf i,(i:Int),D,T,P,M,C,S,B,E)=some (.inr ([],((at':Nat):Int),kindOf cuts.length,D,T,P,M,C',S,B',E)) /\ BInv b pd dec par enc m q pc Y C' B' cuts.length at'
  | 0,i,at_,C,B,hi,h=>by
    have:i=cuts.length:=by omega
    subst this
    refine .inr ⟨at_,C,B,loop_inl ?_,h⟩
    unfold F_wlvlaw23_ConnBlocks_L26
    dsimp only
    rw [decide_eq_false (by omega),cond_false]
  | k+1,i,at_,C,B,hi,h=>by
    have hlt:i < cuts.length:=by omega
    have hg:getI cuts (i:Int)=some cuts[i]:=by
      unfold getI
      rw [decide_eq_true (by omega),cond_true,Int.toNat_natCast,List.getElem?_eq_getElem hlt]
    obtain ⟨x,hxv⟩:∃ x,cuts[i]=x:=⟨_,rfl⟩
    rw [hxv] at hg
    by_cases h0:x < 0
    · have e : ∃ z, F_wlvlaw23_ConnBlocks_L26 cuts x14 b ([], (at_ : Int), kindOf i, (i : Int), D, T, P, M, C, S, B, E) = some (.inl (.inl (true, z))) := by
        unfold F_wlvlaw23_ConnBlocks_L26
        dsimp only
        rw [decide_eq_true (show (i:Int) < (cuts.length:Int) by omega),cond_true,hg,Option.bind_some,decide_eq_true h0,cond_true,cfirst_any,Option.bind_some]
        exact ⟨_,rfl⟩
      obtain ⟨z,e⟩:=e
      exact .inl ⟨z,loop_inl e⟩
    by_cases h1:x > 2000
    · have e : ∃ z, F_wlvlaw23_ConnBlocks_L26 cuts x14 b ([], (at_ : Int), kindOf i, (i : Int), D, T, P, M, C, S, B, E) = some (.inl (.inl (true, z))) := by
        unfold F_wlvlaw23_ConnBlocks_L26
        dsimp only
        rw [decide_eq_true (show (i:Int) < (cuts.length:Int) by omega),cond_true,hg,Option.bind_some,decide_eq_false h0,cond_false,Option.bind_some,decide_eq_true h1,cond_true,cfirst_any,Option.bind_some]
        exact ⟨_,rfl⟩
      obtain ⟨z,e⟩:=e
      exact .inl ⟨z,loop_inl e⟩
    have hat:=h.1
    obtain ⟨n,hn⟩:∃ n:Nat,minI x ((b.length:Int) - (at_:Int))=(n:Int):=by
      unfold minI
      by_cases hm:(b.length:Int) - (at_:Int) < x
      · rw [decide_eq_true hm,cond_true];exact ⟨b.length - at_,by omega⟩
      · rw [decide_eq_false hm,cond_false];exact ⟨x.toNat,by omega⟩
    have hnb:at_+n<=b.length:=by
      unfold minI at hn
      by_cases hm:(b.length:Int) - (at_:Int) < x
      · rw [decide_eq_true hm,cond_true] at hn;omega
      · rw [decide_eq_false hm,cond_false] at hn;omega
    obtain ⟨C2,B2,hf,h2⟩:=blocks_piece (D:=D) (T:=T) (S:=S) (E:=E) hb hne hP hM h hnb
    have hz:((b.drop at_).take n).length<=16384:=by rw [List.length_take,List.length_drop];omega
    have hk9:kindOf (i+1)=9:=by unfold kindOf;rw [decide_eq_false (by omega)];rfl
    have hko:0<=kindOf i /\ kindOf i<=9:=by
      unfold kindOf
      cases decide (i=0) <;> decide
    have hstep:F_wlvlaw23_ConnBlocks_L26 cuts x14 b ([],(at_:Int),kindOf i,(i:Int),D,T,P,M,C,S,B,E)=some (.inr ([],((at_+n:Nat):Int),kindOf (i+1),((i+1:Nat):Int),D,T,P,M,C2,S,B2,E)):=by
      unfold F_wlvlaw23_ConnBlocks_L26
      dsimp only
      rw [decide_eq_true (show (i:Int) < (cuts.length:Int) by omega),cond_true,hg,Option.bind_some,decide_eq_false h0,cond_false,Option.bind_some,decide_eq_false h1,cond_false,Option.bind_some]
      rw [wB64 (x:=(b.length:Int) - (at_:Int)) (by omega) (by omega),hn,wB64 (x:=(at_:Int)+(n:Int)) (by omega) (by omega),wB64 (x:=(i:Int)+1) (by omega) (by omega)]
      have e1:(at_:Int)+(n:Int)=((at_+n:Nat):Int):=by omega
      have e2:(i:Int)+1=((i+1:Nat):Int):=by omega
      rw [e1,e2,cut_mid hnb,Option.bind_some,framed_eq (okH hko (by decide) hz),Option.bind_some,hx,hf,Option.bind_some]
      dsimp only
      unfold chk
      rw [ck80,cond_true,hk9]
      rfl
    rcases blocks_loop hx hc hb hne hP hM k (i+1) (at_+n) C2 B2 (by omega) h2 with ⟨z,hz⟩ | ⟨at',C',B',hl,h3⟩
    · exact .inl ⟨z,loop_inr hstep hz⟩
    · exact .inr ⟨at',C',B',loop_inr hstep hl,h3⟩
end
theorem same_loop (l:List Fld) (hl:l.length<=1000000):∀ (k i:Nat),i+k=l.length->loopC (F_wlvref4_Same_L6 l l) (i:Int)=some (.inr ())
 | 0,i,h=>by
  refine loop_inl ?_
  unfold F_wlvref4_Same_L6
  dsimp only
  rw [decide_eq_false (by omega),cond_false]
 | k+1,i,h=>by
  have hlt:i < l.length:=by omega
  have hg:getI l (i:Int)=some l[i]:=by
   unfold getI
   rw [decide_eq_true (by omega),cond_true,Int.toNat_natCast,List.getElem?_eq_getElem hlt]
  refine loop_inr (s':=((i+1:Nat):Int)) ?_ (same_loop l hl k (i+1) (by omega))
  unfold F_wlvref4_Same_L6
  dsimp only
  rw [decide_eq_true (by omega),cond_true,hg,Option.bind_some,Option.bind_some]
  rw [beq_self_eq_true,Bool.not_true,cond_false,Option.bind_some,Option.bind_some,beq_self_eq_true,Bool.not_true,cond_false,wB64 (x:=(i:Int)+1) (by omega) (by omega)]
  rfl
theorem same_self (l:List Fld) (hl:l.length<=1000000):F_wlvref4_Same l l=some true:=by
 unfold F_wlvref4_Same
 have hn:((l.length:Int) != (l.length:Int))=false:=by simp
 have h0:loopC (F_wlvref4_Same_L6 l l) 0=some (.inr ()):=same_loop l hl l.length 0 (by omega)
 rw [hn,cond_false,join_inr h0]
 rfl
theorem same_one (fs:List Fld) (hl:fs.length<=1000000):F_wlvref23_SameEvents [(1,1,0,fs,[],false,false,false)] [(1,1,0,fs,[],false,false,false)]=some true:=by
 have hb:F_wlvref_Bytes [] []=some true:=rfl
 have h1:F_wlvref23_SameEvents_L6 [(1,1,0,fs,[],false,false,false)] [(1,1,0,fs,[],false,false,false)] 0=some (.inr 1):=by
  unfold F_wlvref23_SameEvents_L6
  dsimp only
  rw [show decide ((0:Int) < ((([((1:Int),(1:Int),(0:Int),fs,([]:List Int),false,false,false)]:List CnE).length:Nat):Int))=true from rfl,cond_true,getI_zero,Option.bind_some,Option.bind_some]
  dsimp only
  rw [show ((1:Int) != 1)=false from rfl,cond_false,cond_false,show ((0:Int) != 0)=false from rfl,cond_false,show (!(bEq false false))=false from rfl,cond_false,cond_false,cond_false,hb,Option.bind_some,Bool.not_true,cond_false,same_self fs hl,Option.bind_some,Bool.not_true,cond_false]
  rfl
 have h2:loopC (F_wlvref23_SameEvents_L6 [(1,1,0,fs,[],false,false,false)] [(1,1,0,fs,[],false,false,false)]) 0=some (.inr ()):=loop_inr h1 (loop_inl rfl)
 unfold F_wlvref23_SameEvents
 rw [show ((((([((1:Int),(1:Int),(0:Int),fs,([]:List Int),false,false,false)]:List CnE).length:Nat):Int)) != ((([((1:Int),(1:Int),(0:Int),fs,([]:List Int),false,false,false)]:List CnE).length:Nat):Int))=false from rfl,cond_false,join_inr h2]
 rfl
theorem store_loop {v:Nat} {x:List Int×Int} {pre:List Int} (hpre:pre=List.take (List.length ([130,0,1,120]:List Int)) ([130,0,1,120]:List Int)++x.1) (hv:v<=16000) (hl:pre.length<=100) {D:List DD} {T:List TD} {P:List PD} {M:List CnM} {C:List CnC} {S:List CnS} {B:List BD} {E:List ED}:∀ (k j:Nat),j+k=v ->
  loopC (F_wlvlaw23_ConnBlocks_L15 (v:Int) x) (((pre.length+j:Nat):Int),pre++(List.replicate j 118++List.replicate k 0),D,T,P,M,C,S,B,E)=some (.inr (pre++List.replicate v 118,D,T,P,M,C,S,B,E))
 | 0,j,h=>by
  have:j=v:=by omega
  subst this
  refine loop_inl ?_
  unfold F_wlvlaw23_ConnBlocks_L15 chk
  dsimp only
  have hlen:(pre++(List.replicate j (118:Int)++List.replicate 0 0)).length=pre.length+j:=by simp
  rw [<-hpre,Int.toNat_natCast,decide_eq_false (by omega),cond_false,hlen,Nat.ble_eq_true_of_le (Nat.le_refl _),show (true&&true)=true from rfl,cond_true,Option.map_some,List.take_of_length_le (by rw [hlen];exact Nat.le_refl _)]
  simp
 | k+1,j,h=>by
  have hset:(pre++(List.replicate j (118:Int)++List.replicate (k+1) 0)).set (pre.length+j) 118=pre++(List.replicate (j+1) 118++List.replicate k 0):=by
   rw [List.set_append_right _ _ (by omega),Nat.add_sub_cancel_left,List.set_append_right _ _ (by simp),List.length_replicate,Nat.sub_self,List.replicate_succ,List.set_cons_zero]
   rw [show List.replicate (j+1) (118:Int)=List.replicate j 118++[118] from List.replicate_succ',List.append_assoc]
   rfl
  have hlen:(pre++(List.replicate j (118:Int)++List.replicate (k+1) 0)).length=pre.length+v:=by
   simp only [List.length_append,List.length_replicate];omega
  refine loop_inr (s':=(((pre.length+(j+1):Nat):Int),pre++(List.replicate (j+1) 118++List.replicate k 0),D,T,P,M,C,S,B,E)) ?_ (store_loop hpre hv hl k (j+1) (by omega))
  unfold F_wlvlaw23_ConnBlocks_L15 chk
  dsimp only
  rw [<-hpre,Int.toNat_natCast,hlen]
  have c1:decide (((pre.length+j:Nat):Int) < (pre.length:Int)+(v:Int))=true:=decide_eq_true (by omega)
  have c2:decide (((pre.length+j:Nat):Int) < ((pre.length+v:Nat):Int))=true:=decide_eq_true (by omega)
  have c3:decide ((0:Int)<=((pre.length+j:Nat):Int))=true:=decide_eq_true (by omega)
  simp only [c1,c2,c3,cond_true,Bool.and_self]
  rw [Int.toNat_natCast,hset,wB64 (x:=((pre.length+j:Nat):Int)+1) (by omega) (by omega)]
  rfl
section
variable {p : Int} {M : List CnM} {C : List CnC} {S : List CnS}
variable {r : Int × Bool × Int × Int × Int × Int} {streams enc code highest m send room : Int} {peer : Int × Int × Int × Int × Int × Int} {q cl : List Int} {dead stopped feeding : Bool} {ev : List CnE}
theorem state_none (hC:getI C p=some (r,streams,peer,enc,q,dead,code,stopped,1,m,cl,send,room,ev,feeding)) (hM:getI M m=some []):F_conn_Conn_State p 1 M C S=some 4:=by
 have hp:=getI_nn hC
 unfold F_conn_Conn_State chk
 simp only [hp,cond_true,hC,Option.bind_some,hM]
 rfl
end
theorem blocks_core {pc pd decC parC encC mC tC uC decD parD encD mD tD uD w w':Int} {qC qD:List Int} {M:List CnM} {C:List CnC} {S:List CnS} {P:List PD} {D:List DD} {T:List TD} {B:List BD} {E:List ED} {v:Nat} {cuts:List Int} {x13 x14:Int×List DD×List TD×List PD×List CnM×List CnC×List ED} (hv:v<=16000) (hcl:cuts.length<=40)
    (hx3:x13.1=pc) (hx4:x14.1=pd) (hne:pc≠pd) (hmm:mC≠mD)
    (hCc:getI C pc=some ((0,false,16384,decC,parC,-1),10,pr0,encC,qC,false,0,false,0,mC,[],65535,65535,[],false)) (hCd:getI C pd=some ((0,false,16384,decD,parD,-1),10,pr0,encD,qD,false,0,false,0,mD,[],65535,65535,[],false))
    (hPc:getI P parC=some (16384,[])) (hPd:getI P parD=some (16384,[])) (hMc:getI M mC=some []) (hMd:getI M mD=some []) (hEc:getI E encC=some (tC,w,4096)) (hEd:getI E encD=some (tD,w',4096)) (hTc:getI T tC=some ([],0,4096)) (hTd:getI T tD=some ([],0,4096)) (hDc:getI D decC=some (uC,false)) (hDd:getI D decD=some (uD,false)) (hqc:qC.length<=1000) (hqd:qD.length<=1000) :
    ∃ z,F_wlvlaw23_ConnBlocks_J13 cuts x13 x14 (blkB v,D,T,P,M,C,S,B,E)=some (true,z):=by
  have hbl:=blkB_len v
  have hb:(blkB v).length<=16384:=by omega
  have hnp:=getI_nn hCc
  have hnd:=getI_nn hCd
  have f1:=hello_feed (S:=S) (B:=B) (D:=D) hCc hPc hMc hEc hTc hqc
  obtain ⟨C1,hC1⟩:∃ C1,C.set pc.toNat ((24,true,16384,decC,parC,-1),10,pr0,encC,qC++fb 4 1 0 [],false,0,false,0,mC,[],65535,65535,[],false)=C1:=⟨_,rfl⟩
  have g1:getI C1 pd=some ((0,false,16384,decD,parD,-1),10,pr0,encD,qD,false,0,false,0,mD,[],65535,65535,[],false):=by rw [<-hC1];exact getI_ne hnp hne hCd
  have g2:getI C1 pc=some (cnD 16384 decC parC (-1) encC 0 mC (qC++fb 4 1 0 [])):=by rw [<-hC1];exact getI_set hCc
  rw [hC1] at f1
  have f2:=hello_feed (S:=S) (B:=B) (D:=D) g1 hPd hMd hEd hTd hqd
  obtain ⟨C2,hC2⟩:∃ C2,C1.set pd.toNat ((24,true,16384,decD,parD,-1),10,pr0,encD,qD++fb 4 1 0 [],false,0,false,0,mD,[],65535,65535,[],false)=C2:=⟨_,rfl⟩
  have g3:getI C2 pc=some (cnD 16384 decC parC (-1) encC 0 mC (qC++fb 4 1 0 [])):=by rw [<-hC2];exact getI_ne hnd (fun e=>hne e.symm) g2
  have g4:getI C2 pd=some (cnD 16384 decD parD (-1) encD 0 mD (qD++fb 4 1 0 [])):=by rw [<-hC2];exact getI_set g1
  rw [hC2] at f2
  have hdecC:F_unpack_Dec_Decode decC (blkB v) 16384 D T=some ([methodF,xF v],0,D,T):=decodeX hv hDc
  have hdecD:F_unpack_Dec_Decode decD (blkB v) 16384 D T=some ([methodF,xF v],0,D,T):=decodeX hv hDd
  have hR:=creads_whole (T:=T) (D:=D) (P:=P) (M:=M) (S:=S) (B:=B) (E:=E) (b:=blkB v) (fs:=[methodF,xF v]) (getI_set (x:=((24,true,16384,decC,parC,-1),10,pr0,encC,qC++fb 4 1 0 [],false,0,false,0,mC,[],65535,65535,[],true)) g3) hMc hb hdecC (by simp)
  rw [set_two] at hR
  have f3:=feed_one (okH (by decide) (by decide) hb) g3 hPc hR (getI_set g3)
  rw [set_two] at f3
  obtain ⟨C3,hC3⟩:∃ C3,C2.set pc.toNat ((24,true,16384,decC,parC,-1),10,pr0,encC,qC++fb 4 1 0 [],false,0,false,1,mC,[],65535,65535,[],false)=C3:=⟨_,rfl⟩
  have g5:getI C3 pd=some (cnD 16384 decD parD (-1) encD 0 mD (qD++fb 4 1 0 [])):=by rw [<-hC3];exact getI_ne hnp hne g4
  have g6:getI C3 pc=some (cnD 16384 decC parC (-1) encC 1 mC (qC++fb 4 1 0 [])):=by rw [<-hC3];exact getI_set g3
  rw [hC3] at f3
  have hMc1:getI (M.set mC.toNat [(1,(S.length:Int))]) mC=some [(1,(S.length:Int))]:=getI_set hMc
  have hMd1:getI (M.set mC.toNat [(1,(S.length:Int))]) mD=some []:=getI_ne (getI_nn hMc) hmm hMd
  have hfr:F_wlvlaw23_framed 1 4 1 (blkB v)=some (fb 1 4 1 (blkB v)):=framed_eq (okH (by decide) (by decide) hb)
  have hI:BInv (blkB v) pd decD parD encD mD (qD++fb 4 1 0 []) pc (cnD 16384 decC parC (-1) encC 1 mC (qC++fb 4 1 0 [])) C3 (B++[(1,0,0,false,blkB v)]) 0 0:=⟨by omega,g6,.inl ⟨rfl,rfl,g5⟩⟩
  unfold F_wlvlaw23_ConnBlocks_J13
  dsimp only
  rw [hello_eq,Option.bind_some,hx3,f1,Option.bind_some,Option.bind_some,hx4]
  dsimp only
  rw [f2,Option.bind_some,hfr,Option.bind_some]
  dsimp only
  rw [f3,Option.bind_some]
  dsimp only
  rcases blocks_loop (x14:=x14) (D:=D) (T:=T) (E:=E) (S:=S++[(1,65535,65535)]) (cuts:=cuts) hx4 hcl hb hne hPd hMd1 cuts.length 0 0 C3 (B++[(1,0,0,false,blkB v)]) (by omega) hI with ⟨z,hz⟩ | ⟨at',C',B',hl,hI2⟩
  · exact ⟨z,join_inl hz⟩
  · refine Exists.imp (fun z hz=>(join_inr hl).trans hz) ?_
    obtain ⟨C4,B4,f4,g7,g8⟩:=blocks_last (S:=S++[(1,65535,65535)]) (E:=E) (fs:=[methodF,xF v]) hb hne hPd hMd1 hdecD hI2
    have hat:=hI2.1
    have hz:((blkB v).drop at').length<=16384:=by rw [List.length_drop];omega
    have hko:0<=kindOf cuts.length /\ kindOf cuts.length<=9:=by
      unfold kindOf
      cases decide (cuts.length=0) <;> decide
    have hcut:cutI (blkB v) (at':Int) ((blkB v).length:Int)=some ((blkB v).drop at'):=by
      have:=cut_mid (b:=blkB v) (a:=at') (n:=(blkB v).length - at') (by omega)
      rw [show at'+((blkB v).length - at')=(blkB v).length by omega] at this
      rw [this,List.take_of_length_le (by rw [List.length_drop];exact Nat.le_refl _)]
    have hfr2:F_wlvlaw23_framed (kindOf cuts.length) 4 1 ((blkB v).drop at')=some (fb (kindOf cuts.length) 4 1 ((blkB v).drop at')):=framed_eq (okH hko (by decide) hz)
    have hMd2:getI ((M.set mC.toNat [(1,(S.length:Int))]).set mD.toNat [(1,((S++[((1:Int),(65535:Int),(65535:Int))]).length:Int))]) mD=some [(1,((S++[((1:Int),(65535:Int),(65535:Int))]).length:Int))]:=getI_set hMd1
    have hMc2:getI ((M.set mC.toNat [(1,(S.length:Int))]).set mD.toNat [(1,((S++[((1:Int),(65535:Int),(65535:Int))]).length:Int))]) mC=some [(1,(S.length:Int))]:=getI_ne (getI_nn hMd1) (fun e=>hmm e.symm) hMc1
    have s1:=fun (X:List CnM) (Y:List CnC)=>state_at (n:=1) (S:=(S++[((1:Int),(65535:Int),(65535:Int))])++[((1:Int),(65535:Int),(65535:Int))]) (getI_app (r:=Y) g7) (getI_app (r:=X) hMc2) (by decide) (by decide) (by decide) (j:=(S.length:Int)) rfl (getI_app getI_new)
    have s2:=fun (X:List CnM) (Y:List CnC)=>state_at (n:=1) (S:=(S++[((1:Int),(65535:Int),(65535:Int))])++[((1:Int),(65535:Int),(65535:Int))]) (getI_app (r:=Y) g8) (getI_app (r:=X) hMd2) (by decide) (by decide) (by decide) (j:=((S++[((1:Int),(65535:Int),(65535:Int))]).length:Int)) rfl getI_new
    have hse:=same_one [methodF,xF v] (by simp)
    have hfin:∀ x41:List CnE×List DD×List TD×List PD×List CnM×List CnC×List CnS×List BD×List ED,x41.1=[(1,1,0,[methodF,xF v],[],false,false,false)] -> ∃ z,F_wlvlaw23_ConnBlocks_J24 cuts x13 x14 (blkB v) x41 ([],(at':Int),kindOf cuts.length,D,T,P,M.set mC.toNat [(1,(S.length:Int))],C',S++[(1,65535,65535)],B',E)=some (true,z):=fun x41 hx=>by
      unfold F_wlvlaw23_ConnBlocks_J24
      dsimp only
      rw [show (((([]:List CnE).length:Nat):Int) != 0)=false from rfl,cond_false,hx,hcut,hx3,hx4]
      by_cases hc:cuts.length=0
      · rw [decide_eq_false (by omega),cond_false,Option.bind_some,hfr2,Option.bind_some,f4,Option.bind_some]
        dsimp only
        rw [cfirst_any,Option.bind_some]
        dsimp only
        rw [show (true&&((([((1:Int),(1:Int),(0:Int),[methodF,xF v],([]:List Int),false,false,false)]:List CnE).length:Int)==1))=true from rfl,cond_true,hse,Option.bind_some,cond_true,getI_zero,Option.bind_some,Option.bind_some]
        dsimp only
        rw [show bEq ((([methodF,xF v]:List Fld).length:Int)==2) (!false)=true from rfl,cond_true,s1,Option.bind_some,show ((1:Int)==1)=true from rfl,cond_true,s2,Option.bind_some]
        exact ⟨_,rfl⟩
      · have hst : F_conn_Conn_State pd 1 (M.set mC.toNat [(1, (S.length : Int))]) C' (S ++ [(1, 65535, 65535)]) = some 4 := by
          obtain ⟨_,_,h2⟩:=hI2
          rcases h2 with ⟨h3,_⟩ | ⟨_,k,h3,_⟩
          · exact (hc h3).elim
          · exact state_none h3 hMd1
        rw [decide_eq_true (by omega),cond_true,hst,Option.bind_some,show ((4:Int)==1)=false from rfl,cond_false,Option.bind_some,hfr2,Option.bind_some,f4,Option.bind_some]
        dsimp only
        rw [cfirst_any,Option.bind_some]
        dsimp only
        rw [show (true&&((([((1:Int),(1:Int),(0:Int),[methodF,xF v],([]:List Int),false,false,false)]:List CnE).length:Int)==1))=true from rfl,cond_true,hse,Option.bind_some,cond_true,getI_zero,Option.bind_some,Option.bind_some]
        dsimp only
        rw [show bEq ((([methodF,xF v]:List Fld).length:Int)==2) (!false)=true from rfl,cond_true,s1,Option.bind_some,show ((1:Int)==1)=true from rfl,cond_true,s2,Option.bind_some]
        exact ⟨_,rfl⟩
    exact hfin _ rfl
set_option maxRecDepth 20000 in
theorem blocks_true (D:List DD) (T:List TD) (P:List PD) (M:List CnM) (C:List CnC) (S:List CnS) (B:List BD) (E:List ED) (n:Int) (cuts:List Int):∃ z,F_wlvlaw23_ConnBlocks n cuts D T P M C S B E=some (true,z):=by
  unfold F_wlvlaw23_ConnBlocks
  rw [cfirst_any,Option.bind_some]
  dsimp only
  rw [Bool.not_true,cond_false]
  generalize D++[((T.length:Int)+1,false)]=D1
  generalize E++[((T.length:Int),(4096:Int),(4096:Int))]=E1
  generalize C++[ch 3 1000 T D P M E []]=C1
  generalize T++[(([]:List Fld),((0:Int),(4096:Int))),([],(0,4096))]=T1
  generalize P++[((16384:Int),([]:List Int))]=P1
  generalize M++[([]:CnM)]=M1
  by_cases hr:(n < 0 \/ n > 16000) \/ (cuts.length:Int) > 40
  · have e : ((decide (n < 0) || decide (n > 16000)) || decide ((cuts.length : Int) > 40)) = true := by
      rcases hr with (h | h) | h <;> simp [h]
    rw [e,cond_true,cfirst_any,Option.bind_some]
    exact ⟨_,rfl⟩
  rw [decide_eq_false (show ¬ n < 0 by omega),decide_eq_false (show ¬ n > 16000 by omega),decide_eq_false (show ¬ (cuts.length:Int) > 40 by omega),Bool.or_self,Bool.or_self,cond_false,cnew_at,Option.bind_some]
  dsimp only
  obtain ⟨C2,hC2⟩:∃ C2,C1++[c0 10 16384 D1 P1 M1 E1]=C2:=⟨_,rfl⟩
  obtain ⟨D2,hD2⟩:∃ D2,D1++[((T1.length:Int)+1,false)]=D2:=⟨_,rfl⟩
  obtain ⟨T2,hT2⟩:∃ T2,T1++[(([]:List Fld),((0:Int),(4096:Int))),([],(0,4096))]=T2:=⟨_,rfl⟩
  obtain ⟨P2,hP2⟩:∃ P2,P1++[((16384:Int),([]:List Int))]=P2:=⟨_,rfl⟩
  obtain ⟨M2,hM2⟩:∃ M2,M1++[([]:CnM)]=M2:=⟨_,rfl⟩
  obtain ⟨E2,hE2⟩:∃ E2,E1++[((T1.length:Int),(4096:Int),(4096:Int))]=E2:=⟨_,rfl⟩
  rw [hC2,hD2,hT2,hP2,hM2,hE2,cnew_at,Option.bind_some]
  dsimp only
  obtain ⟨v,rfl⟩:∃ v:Nat,n=(v:Int):=⟨n.toNat,by omega⟩
  rw [show (eqI (C1.length:Int) (-1)||eqI (C2.length:Int) (-1))=false by
    rw [show eqI (C1.length:Int) (-1)=false from beq_eq_false_iff_ne.2 (by omega),show eqI (C2.length:Int) (-1)=false from beq_eq_false_iff_ne.2 (by omega)];rfl,cond_false,wput_eq (by omega) (by omega),Option.bind_some]
  dsimp only
  have hpl:=pintL_len (v:Int)
  have hpos:0 < (pintL (v:Int)).length:=by
    obtain ⟨x,l,hx,_⟩:=pintL_hd (n:=(v:Int)) (by omega)
    rw [hx];simp
  obtain ⟨pre,hpre⟩:∃ pre,pre=List.take (List.length ([130,0,1,120]:List Int)) ([130,0,1,120]:List Int)++pintL (v:Int):=⟨_,rfl⟩
  have ht4:(List.take (List.length ([130,0,1,120]:List Int)) ([130,0,1,120]:List Int)).length=4:=rfl
  have hprel:pre.length=4+(pintL (v:Int)).length:=by rw [hpre,List.length_append,ht4]
  have k1:(Nat.ble (List.length ([130,0,1,120]:List Int)) (List.length ([130,0,1,120]:List Int))&&true)=true:=rfl
  have hm:maxLen=9223372036854775807:=rfl
  have k2:(Nat.blt 0 (pintL (v:Int)).length&&decide (((List.take (List.length ([130,0,1,120]:List Int)) ([130,0,1,120]:List Int)).length+(pintL (v:Int)).length)*1<=140737488355328)&&decide ((List.take (List.length ([130,0,1,120]:List Int)) ([130,0,1,120]:List Int)).length+(pintL (v:Int)).length<=maxLen))=true:=by
    rw [ht4,hm,Bool.and_eq_true,Bool.and_eq_true,Nat.blt_eq,decide_eq_true_iff,decide_eq_true_iff]
    omega
  have k3:Nat.blt 0 (List.length pre)=true:=by rw [Nat.blt_eq];omega
  have k4:(decide (0<=(v:Int))&&decide ((List.length pre+Int.toNat (v:Int))*1<=140737488355328)&&decide ((List.length pre+Int.toNat (v:Int))<=1000000000000))=true:=by
    rw [Int.toNat_natCast,Bool.and_eq_true,Bool.and_eq_true,decide_eq_true_iff,decide_eq_true_iff,decide_eq_true_iff]
    omega
  unfold chk
  rw [k1,cond_true,k2,cond_true,<- hpre,k3,cond_true,k4,cond_true,Int.toNat_natCast]
  have hw:IntKind.i64.wrap (((List.length pre+v:Nat):Int) - (v:Int))=((List.length pre+0:Nat):Int):=by
    rw [wB64 (by omega) (by omega)];omega
  have hw':IntKind.i64.wrap ((pre.length:Int)+(v:Int) - (v:Int))=((List.length pre+0:Nat):Int):=by
    rw [wB64 (by omega) (by omega)];omega
  have hl:=store_loop (v:=v) (x:=(pintL (v:Int),0)) (pre:=pre) hpre (by omega) (by omega) (D:=D2++[((T2.length:Int)+1,false)]) (T:=T2++[([],(0,4096)),([],(0,4096))]) (P:=P2++[(16384,[])]) (M:=M2++[[]]) (C:=C2++[c0 10 16384 D2 P2 M2 E2]) (S:=S) (B:=B) (E:=E2++[((T2.length:Int),4096,4096)]) v 0 (by omega)
  rw [List.replicate_zero,List.nil_append] at hl
  have hfull:pre++List.replicate v 118=blkB v:=by rw [hpre,blkB_eq];rfl
  rw [hfull] at hl
  rw [hw']
  refine Exists.imp (fun z hz=>(join_inr hl).trans hz) ?_
  have lC:(C2.length:Int)=(C1.length:Int)+1:=by rw [<-hC2,List.length_append];simp
  have lM:(M2.length:Int)=(M1.length:Int)+1:=by rw [<-hM2,List.length_append];simp
  have lT:(T2.length:Int)=(T1.length:Int)+2:=by rw [<-hT2,List.length_append];simp
  have q21:(fb 4 0 0 (setsB 10 16384)).length<=1000:=by rw [fb_len,setsB_len];decide
  exact blocks_core (pc:=(C1.length:Int)) (pd:=(C2.length:Int)) (decC:=(D1.length:Int)) (decD:=(D2.length:Int)) (parC:=(P1.length:Int)) (parD:=(P2.length:Int)) (encC:=(E1.length:Int)) (encD:=(E2.length:Int)) (mC:=(M1.length:Int)) (mD:=(M2.length:Int)) (by omega) (by omega) rfl rfl (by omega) (by omega)
    (getI_app (by rw [<-hC2];exact getI_new)) getI_new (getI_app (by rw [<-hP2];exact getI_new)) getI_new (getI_app (by rw [<-hM2];exact getI_new)) getI_new
    (getI_app (by rw [<-hE2];exact getI_new)) getI_new (getI_app (by rw [<-hT2];exact getI_new0)) getI_new0 (getI_app (by rw [<-hD2];exact getI_new)) getI_new q21 q21
theorem ConnBlocks_true (n:Int) (cuts:List Int):∃ z,F_wlvlaw23_ConnBlocks n cuts [] [] [] [] [] [] [] []=some (true,z):=blocks_true [] [] [] [] [] [] [] [] n cuts
end Go.Proofs.YtifbhefbhlbofaaGreatDoor
