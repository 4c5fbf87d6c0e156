/- Texts of this claim, one behind the other. -/
import Derived.Test.YtifbhefbhlbofaaDoorWatchPiecesM5
import Derived.Shelf.Spec.SlicesGrow
import Derived.LoopTactic
import Derived.Handy
import Derived.RegionTactic
import Ieee.Arith
import GoSem.Core.Float
import Derived.Laws.BitsLemmas
set_option maxRecDepth 100000
set_option maxRecDepth 100000
namespace Go.Proofs.YtifbhefbhlbofaaDoor
open Pv Go.ChangeMaps
set_option linter.unusedVariables false
theorem run_ext {P:Program} {w:World} {vs:Array Value} {i:Nat} {v:Value} (h:vs[i]? = some v):(Instr.extract (.tuple vs) i).run P w=.ok v w:=by
 simp [Instr.extract,h]
theorem eval_tmp (a:Act) (i:Nat):a.eval (.tmp i)=tm a i:=rfl
theorem apL2_pool {v v' v'' k:Nat} {b:Bool} {W:List ApW} {S:List ApS} {M:List ApM} {x:Nat×List Leaf} (hL:apL2 v v' v'' b W S M k=some x):isPool k=true:=by
 unfold apL2 findL at hL
 split at hL
 ·rename_i hk;rw [<-Nat.eq_of_beq_eq_true hk];exact isPool_pk _
 ·unfold findL at hL
  split at hL
  ·rename_i hk;rw [<-Nat.eq_of_beq_eq_true hk];exact isPool_pk _
  ·unfold findL at hL
   split at hL
   ·rename_i hk;rw [<-Nat.eq_of_beq_eq_true hk];exact isPool_mk _
   ·cases hL
section
variable {F : Fr} {g : Gh} {w : World} {tmf : Nat -> Value}
theorem map_here {q:PV} {v v' v'':Nat} {b:Bool} {p by_:Int} {W:List ApW} {S:List ApS} {M:List ApM} (h:MRel F g (apSt2 q v v' v'' b p by_ W S M) tmf w) (hPT:¬ F.PT kM) {mi bm:Nat} {ms:ApM} (hM:M[mi]? = some ms) (hC:F.C0.i kM mi=some bm) :
  g.ow bm=some (kM,mi,none) /\ ∃ ens clock,w.heap[bm]? = some (.map ens clock) /\ EntOk w g.C (.int .i64) (.ptr 71) ms ens.toList clock:=by
 have hi:g.C.i kM mi=some bm:=(h.ows.i kM hPT mi).trans hC
 have hL:(apSt2 q v v' v'' b p by_ W S M).L kM=some (0,[poolLeaf b v'' apMt M]):=rfl
 obtain ⟨e,l,h1,h2,h3⟩:=h.pools kM _ _ hL (isPool_mk _)
 have key:∀ (l':List ApM),l'=M->ItemOk g w kM apMt mi ms->g.ow bm=some (kM,mi,none) /\ ∃ ens clock,w.heap[bm]? = some (.map ens clock) /\ EntOk w g.C (.int .i64) (.ptr 71) ms ens.toList clock:=fun _ _ h4=>by
  unfold ItemOk at h4
  rw [isMapK_mk] at h4
  obtain ⟨b',ens,clock,q1,q2,q3,q4,q5⟩:=h4
  rw [hi] at q1
  cases q1
  exact ⟨q2,ens,clock,q3,q5⟩
 cases b with
 | true=>
  rcases h1 with ⟨v1,h1,_⟩ | h1
  ·cases h1
   exact key M rfl (h3 mi ms hM)
  ·cases h1
 | false=>
  rcases h1 with ⟨v1,h1,_⟩ | h1
  ·cases h1
  ·cases h1
   exact key M rfl (h3 mi ms hM)
end
def apInv (F:Fr) (r bm:Nat) (ens:Array MapEntry) (clock:Nat) (p:Nat) (by_:Int) (ms:ApM) (M:List ApM) (W0:List ApW) (w0:ApW) (S0:List ApS) (n:Nat) (a:Act) (w:World):Prop:=
 ∃ (g:Gh) (W:List ApW) (S:List ApS) (v v' v'':Nat) (b:Bool) (seen:Array Nat) (c:Nat) (bl:Bool),
  n=(leftOf ens seen).size /\ a.tmps.size=F.n /\ a.defers=[] /\ tm a 59=.pointer (some ⟨r,0,none⟩) /\ MRel F g (apSt2 .dead v v' v'' b (p:Int) by_ W S M) (tm a) w /\
  r < w.heap.size /\ w.heap[r]? = some (.mapIter (some bm) clock seen c) /\ clock<=c /\ w.heap[bm]? = some (.map ens clock) /\ g.ow r=none /\ ApRel by_ p ms ens.toList W0 w0 S0 seen bl W S
theorem run_of {P:Program} {a:Act} {o:Oper} {w w':World} {s:Sem Value} {v:Value} (h:execOp a.eval o=(do let x <-s;pure (.value x))) (hr:s.run P w=.ok v w'):(execOp a.eval o).run P w=.ok (.value v) w':=by
 rw [h,Sem.run_bind,hr];rfl
theorem one_map {α β:Type} {f:α->β} {l:List α} {x:β} (h:l.map f=[x]):∃ a,l=[a] /\ f a=x:=by
 cases l with
 | nil=>cases h
 | cons a l=>
  injection h with h1 h2
  cases l with
  | nil=>exact ⟨a,rfl,h1⟩
  | cons _ _=>cases h2
theorem two_map {α β:Type} {f:α->β} {l:List α} {x y:β} (h:l.map f=[x,y]):∃ a b,l=[a,b] /\ f a=x /\ f b=y:=by
 cases l with
 | nil=>cases h
 | cons a l=>
  injection h with h1 h2
  obtain ⟨b,rfl,h3⟩:=one_map h2
  exact ⟨a,b,rfl,h1,h3⟩
theorem three_map {α β:Type} {f:α->β} {l:List α} {x y z:β} (h:l.map f=[x,y,z]):∃ a b c,l=[a,b,c] /\ f a=x /\ f b=y /\ f c=z:=by
 cases l with
 | nil=>cases h
 | cons a l=>
  injection h with h1 h2
  obtain ⟨b,c,rfl,h3,h4⟩:=two_map h2
  exact ⟨a,b,c,rfl,h1,h3,h4⟩
section
variable {F : Fr} {Q : Exit -> Act -> World -> Prop}
theorem wp8 (hn:F.n=89) {a:Act} {w w':World} {t:Bool} {ts:List Value} {K:Act->World->Prop} (hs:a.tmps.size=F.n) (h59:(Instr.next (tm a 59) false 0).run Tryd.prog w=.ok (.tuple ⟨.bool t::ts⟩) w')
  (hK:K ((a.put (some 60) (.tuple ⟨.bool t::ts⟩)).put (some 61) (.bool t)) w'):(Code.region 8 ops8 false).wp Tryd.prog (Exit.then K Q) a w:=by
 obtain ⟨o1,o2,hl,h1,h2⟩:=two_map ops8_is
 have hty:o1.type=0:=by
  have:=ops8_ty
  rw [hl] at this
  injection this
 injection h1 with d1 h1
 injection h1 with p1 g1
 injection h2 with d2 h2
 injection h2 with p2 g2
 refine wp_region_list ?_
 rw [hl]
 refine wpl_val g1 (run_of (s:=Instr.next (tm a 59) false 0) (by unfold execOp;rw [p1,<- hty] <;> rfl) h59) ?_
 rw [d1]
 have e60:(a.put (some 60) (.tuple ⟨.bool t::ts⟩)).eval (.tmp 60)=.tuple ⟨.bool t::ts⟩:=by
  rw [eval_tmp,tm_at (by rw [hs,hn];decide),if_pos rfl]
 refine wpl_val (v:=.bool t) g2 (run_of (s:=Instr.extract ((a.put (some 60) (.tuple ⟨.bool t::ts⟩)).eval (.tmp 60)) 0) (by unfold execOp;rw [p2] <;> rfl) (by rw [e60];exact run_ext rfl)) ?_
 rw [d2]
 exact wpList_nil hK
theorem wp9 (hn:F.n=89) {a:Act} {w:World} {key val:Value} {K:Act->World->Prop} (hs:a.tmps.size=F.n) (h59:(Instr.entry (tm a 59)).run Tryd.prog w=.ok (.tuple #[key,val]) w)
  (hK:K (((a.put (some 62) (.tuple #[key,val])).put (some 63) val).put (some 7) val) w):(Code.region 9 ops9 false).wp Tryd.prog (Exit.then K Q) a w:=by
 obtain ⟨o1,o2,o3,hl,h1,h2,h3⟩:=three_map ops9_is
 injection h1 with d1 h1
 injection h1 with p1 g1
 injection h2 with d2 h2
 injection h2 with p2 g2
 injection h3 with d3 h3
 injection h3 with p3 g3
 refine wp_region_list ?_
 rw [hl]
 refine wpl_val g1 (run_of (s:=Instr.entry (tm a 59)) (by unfold execOp;rw [p1] <;> rfl) h59) ?_
 rw [d1]
 have e62:(a.put (some 62) (.tuple #[key,val])).eval (.tmp 62)=.tuple #[key,val]:=by
  rw [eval_tmp,tm_at (by rw [hs,hn];decide),if_pos rfl]
 refine wpl_val (v:=val) g2 (run_of (s:=Instr.extract ((a.put (some 62) (.tuple #[key,val])).eval (.tmp 62)) 1) (by unfold execOp;rw [p2] <;> rfl) (by rw [e62];exact run_ext rfl)) ?_
 rw [d2]
 have e63:((a.put (some 62) (.tuple #[key,val])).put (some 63) val).eval (.tmp 63)=val:=by
  rw [eval_tmp,tm_at (by rw [put_size,hs,hn];decide),if_pos rfl]
 refine wpl_val (v:=val) g3 (by unfold execOp;rw [p3];show (pure (Next.value (Act.eval _ (.tmp 63))):Sem Next).run _ _=_;rw [e63];rfl) ?_
 rw [d3]
 exact wpList_nil hK
theorem wp13 (hn:F.n=89) {a:Act} {w:World} {K:Act->World->Prop} (hs:a.tmps.size=F.n) (hK:K (a.put (some 2) (.bool true)) w):(Code.region 13 ops13 false).wp Tryd.prog (Exit.then K Q) a w:=by
 obtain ⟨o1,hl,h1⟩:=one_map ops13_is
 injection h1 with d1 h1
 injection h1 with p1 g1
 refine wp_region_list ?_
 rw [hl]
 refine wpl_val (v:=.bool true) g1 (by unfold execOp;rw [p1] <;> rfl) ?_
 rw [d1]
 exact wpList_nil hK
theorem ap_round (hn:F.n=89) (hPT:¬ F.PT kM) {r bm:Nat} {ens:Array MapEntry} {clock p mi:Nat} {by_:Int} {ms:ApM} {M:List ApM} {W0:List ApW} {w0:ApW} {S0:List ApS} (hrF:F.w0.heap.size<=r) (hrb:r≠bm) (hM:M[mi]? = some ms) (hC:F.C0.i kM mi=some bm)
    (hW0:W0[p]? = some w0) (hok:ms.all (winOk by_ S0)=true) (hnd:(ms.map (·.2)).Nodup) (hQ:∀ a w,apInv F r bm ens clock p by_ ms M W0 w0 S0 0 a w->Q (.exit 0) a w) (n:Nat) (a:Act) (w:World) (hI:apInv F r bm ens clock p by_ ms M W0 w0 S0 n a w) :
    (Code.seq (.region 8 ops8 false) (.seq (.cond (.tmp 61) .skip (.exit 0)) (.block 1 (.seq (.region 9 ops9 false) apRoundC)))).wp Tryd.prog (Exit.then (fun a' w'=>∃ n',n' < n /\ apInv F r bm ens clock p by_ ms M W0 w0 S0 n' a' w') Q) a w:=by
  obtain ⟨g,W,S,v,v',v'',b,seen,c,bl,hnl,hs,hd,h59,hR,hrl,hr,hcc,hb,how,hA⟩:=hI
  obtain ⟨hob,ens',clock',hb',hE⟩:=map_here hR hPT hM hC
  rw [hb] at hb'
  cases hb'
  have hborn:(ens.toList.map (·.born)).Nodup:=hE.2.2.1
  have hlen:ens.toList.length=ms.length:=hE.1
  have hold:∀ x∈ens.toList,x.born < clock:=fun x hx=>by
    obtain ⟨i,hi⟩:=List.mem_iff_getElem?.1 hx
    have hil:i < ms.length:=by rw [<-hlen];exact (List.getElem?_eq_some_iff.1 hi).1
    exact (hE.2.1 i _ x (List.getElem?_eq_getElem hil) hi).2.2
  have h0s:∀ {d i:Nat} {a:Act} {u:Value},a.tmps.size=F.n->d < 89->tm (a.put (some d) u) i=if d=i then u else tm a i:=fun hs hd=>tm_at (by rw [hs,hn];exact hd)
  rcases run_next_at (P:=Tryd.prog) w 0 r bm clock c seen ens clock hr hb hold hcc with ⟨hz,hnext⟩ | ⟨e,he,w1,hw1,hnext⟩
  · rw [<-h59] at hnext
    refine wp_seq (wp8 hn hs hnext ?_)
    refine wp_seq (wp_cond_false ?_ (wp_exit ?_))
    · rw [eval_tmp,h0s (by rw [put_size];exact hs) (by decide),if_pos rfl]
    · show Q (.exit 0) _ w
      refine hQ _ _ ⟨g,W,S,v,v',v'',b,seen,c,bl,hz.symm,by rw [put_size,put_size];exact hs,by rw [put_defers,put_defers];exact hd,?_,?_,hrl,hr,hcc,hb,how,hA⟩
      · rw [h0s (by rw [put_size];exact hs) (by decide),if_neg (by decide),h0s hs (by decide),if_neg (by decide)];exact h59
      · have t0 : ∀ i, i ≠ 60 -> i ≠ 61 -> tm ((a.put (some 60) (.tuple ⟨[.bool false]⟩)).put (some 61) (.bool false)) i = tm a i := fun i h1 h2 => by
          rw [h0s (by rw [put_size];exact hs) (by decide),if_neg (fun e=>h2 e.symm),h0s hs (by decide),if_neg (fun e=>h1 e.symm)]
        have r0:=hR.slots 0
        have r5:=hR.slots 5
        exact ap_canon hR (hR.pools kW 0 _ rfl (isPool_pk _)) (hR.pools kS 0 _ rfl (isPool_pk _)) (hR.pools kM 0 _ rfl (isPool_mk _)) g.ρ (by rw [t0 0 (by decide) (by decide)];exact leaf_any r0) (by rw [t0 5 (by decide) (by decide)];exact leaf_any r5) (.inl rfl)
  · rw [<-h59] at hnext
    obtain ⟨hee,hsee⟩:=mem_left he
    obtain ⟨i,hi⟩:=List.mem_iff_getElem?.1 hee
    have hil:i < ms.length:=by rw [<-hlen];exact (List.getElem?_eq_some_iff.1 hi).1
    obtain ⟨q,hq⟩:∃ q,ms[i]? = some q:=⟨_,List.getElem?_eq_getElem hil⟩
    obtain ⟨hkey,hval,hbl⟩:=hE.2.1 i q e hq hi
    -- the world behind the choice
    obtain ⟨w2,hw2⟩:∃ w2,setBlock w1 r (.mapIter (some bm) clock (seen.push e.born) clock)=w2:=⟨_,rfl⟩
    rw [hw2] at hnext
    have hh1:w1.heap=w.heap:=by rcases hw1 with rfl | rfl <;> rfl
    have hos1:w1.os=w.os /\ w1.tape=w.tape /\ w1.output=w.output:=by rcases hw1 with rfl | rfl <;> exact ⟨rfl,rfl,rfl⟩
    have hheap2:w2.heap=w.heap.setIfInBounds r (.mapIter (some bm) clock (seen.push e.born) clock):=by rw [<-hw2,<- hh1];rfl
    have hr2:w2.heap[r]? = some (.mapIter (some bm) clock (seen.push e.born) clock):=by rw [hheap2];simp [hrl]
    have ho2:∀ b',b'≠r->w2.heap[b']? = w.heap[b']?:=fun b' hne=>by rw [hheap2];simp [Array.getElem?_setIfInBounds,Ne.symm hne]
    have hsz2:w2.heap.size=w.heap.size:=by rw [hheap2];simp
    have hb2:w2.heap[bm]? = some (.map ens clock):=by rw [ho2 bm (fun e=>hrb e.symm)];exact hb
    have hcell:∀ o s,w.cell? ⟨r,o,s⟩=none:=fun o s=>by unfold World.cell?;rw [hr]
    have znt:∀ t,(apSt2 .dead v v' v'' b (p:Int) by_ W S M).O t=true->g.blk t≠some r:=fun t ht=>by
      have ht:tokEq t .zero=true:=ht
      have:t=.zero:=by cases t <;> first | rfl | cases ht
      rw [this,hR.blk0];intro e;cases e
    have znl:∀ k x,(apSt2 .dead v v' v'' b (p:Int) by_ W S M).L k=some x->isPool k=false->(g.ρ k).1≠r:=fun k x hL np=>by
      rw [apL2_pool hL] at np;cases np
    have hR2:=hR.apart (w':=w2) (r:=r) (by omega) (fun b' _ hne=>ho2 b' hne) hrF hcell (by rw [<-hw2];exact hos1.1) (by rw [<-hw2];exact hos1.2.1) (by rw [<-hw2];exact hos1.2.2) znt znl how
    have hent:(Instr.entry (.pointer (some ⟨r,0,none⟩))).run Tryd.prog w2=.ok (.tuple #[e.key,e.val]) w2:=run_entry_at w2 r bm clock seen ens clock e hr2 hb2 hee hborn
    refine wp_seq (wp8 hn hs hnext ?_)
    obtain ⟨a1,ha1⟩:∃ a1,(a.put (some 60) (.tuple ⟨[.bool true,e.key,e.val]⟩)).put (some 61) (.bool true)=a1:=⟨_,rfl⟩
    have hs1:a1.tmps.size=F.n:=by rw [<-ha1,put_size,put_size];exact hs
    have hd1:a1.defers=[]:=by rw [<-ha1,put_defers,put_defers];exact hd
    have t1:∀ i,i≠60->i≠61->tm a1 i=tm a i:=fun i h1 h2=>by
      rw [<-ha1,h0s (by rw [put_size];exact hs) (by decide),if_neg (fun e=>h2 e.symm),h0s hs (by decide),if_neg (fun e=>h1 e.symm)]
    have t161:tm a1 61=.bool true:=by rw [<-ha1,h0s (by rw [put_size];exact hs) (by decide),if_pos rfl]
    show (Code.seq (.cond (.tmp 61) .skip (.exit 0)) (.block 1 (.seq (.region 9 ops9 false) apRoundC))).wp Tryd.prog _ ((a.put (some 60) (.tuple ⟨[.bool true,e.key,e.val]⟩)).put (some 61) (.bool true)) w2
    rw [ha1]
    refine wp_seq (wp_cond_true t161 (wp_skip ?_))
    show (Code.block 1 (.seq (.region 9 ops9 false) apRoundC)).wp Tryd.prog _ a1 w2
    refine wp_block (wp_seq (wp9 hn hs1 (by rw [t1 59 (by decide) (by decide),h59];exact hent) ?_))
    obtain ⟨a2,ha2⟩:∃ a2,((a1.put (some 62) (.tuple #[e.key,e.val])).put (some 63) e.val).put (some 7) e.val=a2:=⟨_,rfl⟩
    rw [ha2]
    have hs2:a2.tmps.size=F.n:=by rw [<-ha2,put_size,put_size,put_size];exact hs1
    have hd2:a2.defers=[]:=by rw [<-ha2,put_defers,put_defers,put_defers];exact hd1
    have t2:∀ i,i≠60->i≠61->i≠62->i≠63->i≠7->tm a2 i=tm a i:=fun i h1 h2 h3 h4 h5=>by
      rw [<-ha2,h0s (by rw [put_size,put_size];exact hs1) (by decide),if_neg (fun e=>h5 e.symm),h0s (by rw [put_size];exact hs1) (by decide),if_neg (fun e=>h4 e.symm),h0s hs1 (by decide),if_neg (fun e=>h3 e.symm),t1 i h1 h2]
    have t27:tm a2 7=e.val:=by rw [<-ha2,h0s (by rw [put_size,put_size];exact hs1) (by decide),if_pos rfl]
    have G2:Gw w g.C w2 g.C:=⟨fun ad u hc hC=>⟨by
      have hne:ad.block≠r:=fun e=>by
        obtain ⟨b',o,s'⟩:=ad
        have e:b'=r:=e
        subst e
        rw [hcell o s'] at hc;cases hc
      unfold World.cell? at hc ⊢
      rw [ho2 _ hne];exact hc,hC⟩,fun _ _ _ h=>h⟩
    have r0:=hR2.slots 0
    have r5:=hR2.slots 5
    have r7:RelP F g w2 (fun _=>false) (tm a2) (tm a2 7) (.w false [.d (.ptr 71) q.2]):=by
      rw [t27]
      exact ⟨[e.val],repLs_single.2 (hval.gw G2),rfl⟩
    have hR3:=ap_canon hR2 (hR2.pools kW 0 _ rfl (isPool_pk _)) (hR2.pools kS 0 _ rfl (isPool_pk _)) (hR2.pools kM 0 _ rfl (isPool_mk _)) g.ρ (tmf':=tm a2) (by rw [t2 0 (by decide) (by decide) (by decide) (by decide) (by decide)];exact leaf_any r0) (by rw [t2 5 (by decide) (by decide) (by decide) (by decide) (by decide)];exact leaf_any r5) (.inr ⟨q.2,rfl,r7⟩)
    -- the round's body, in a frame of its own
    obtain ⟨ac,hac,hacd⟩:∃ ac,apRound=some ac /\ (ac.good=true /\ (∀ d∈ac.dsts,d < 89 /\ 7 < d /\ d≠59) /\ ac.hands=[]):=by
      have h:=ap_good
      split at h
      · rename_i ac hac
        simp only [Bool.and_eq_true] at h
        refine ⟨ac,hac,h.1.1,fun d hd=>?_,?_⟩
        · have:=List.all_eq_true.1 h.1.2 d hd
          simp only [Bool.and_eq_true,Nat.blt_eq] at this
          refine ⟨this.1.1,this.1.2,fun e=>?_⟩
          have h3:=this.2
          rw [e] at h3
          cases h3
        · have h2:=h.2
          split at h2
          · assumption
          · cases h2
      · cases h
    have hcode:ac.erase=apRoundC:=by
      unfold apRound at hac
      split at hac
      · rename_i ac' k' hann
        injection hac with hac
        rw [<-hac]
        exact annot_erase apRoundC 0 _ _ hann
      · cases hac
    have hRm:∀ b',(b'=r \/ b'=bm) -> ∀ k j s,g.ow b'=some (k,j,s) -> ¬ F.PT k:=fun b' hb' k j s ho=>by
      rcases hb' with rfl | rfl
      · rw [how] at ho;cases ho
      · rw [hob] at ho;cases ho;exact hPT
    have hR4:MRel (roundF F g w2 (fun b'=>b'=r \/ b'=bm)) g (apSt2 (.w false [.d (.ptr 71) q.2]) v v' v'' b (p:Int) by_ W S M) (tm a2) w2:=
      MRel.round hR3 (fun t b' ht hbt=>by
        have ht:tokEq t .zero=true:=ht
        have:t=.zero:=by cases t <;> first | rfl | cases ht
        rw [this] at hbt
        have h0:g.blk .zero=none:=hR.blk0
        rw [show ({ g with ρ:=g.ρ }:Gh).blk .zero=g.blk .zero from rfl,h0] at hbt;cases hbt) (fun k x hL np=>by rw [apL2_pool hL] at np;cases np) (fun b' k j s hb' ho=>hRm b' hb' k j s ho)
    have htext:=congrFun (congrFun (congrFun (congrFun (congrFun (congrFun (apRound_text v v' v'' b) (p:Int)) q.2) by_) W) S) M
    rw [hac] at htext
    have htext:pv apEnv ac roundQ (apSt2 (.w false [.d (.ptr 71) q.2]) v v' v'' b (p:Int) by_ W S M)=apBody (p:Int) q.2 by_ W S M:=htext
    -- what the round computes
    have hWp:W[p]? = some (setBlind w0 bl):=by
      rw [hA.W,List.getElem?_set,if_pos rfl,if_pos (List.getElem?_eq_some_iff.1 hW0).1]
    have hres:∃ bl' W' S',apBody (p:Int) q.2 by_ W S M=some ((p:Int),by_,W',S',M) /\ ApRel by_ p ms ens.toList W0 w0 S0 (seen.push e.born) bl' W' S':=by
      unfold apBody
      have hpn:nnI (p:Int)=true:=decide_eq_true (by omega)
      cases bl with
      | true=>
        refine ⟨true,W,S,?_,hA.skip _⟩
        unfold chk
        rw [hpn,cond_true,getI_of hWp,Option.bind_some]
        rfl
      | false=>
        obtain ⟨j,nn,y,k,b',q1,q2,q3,q4⟩:=hA.step hok hnd hborn hq hi hsee
        refine ⟨b',_,_,?_,q4⟩
        have hqn:nnI q.2=true:=by rw [q1];exact decide_eq_true (by omega)
        have hgS:getI S q.2=some (some nn,y):=by rw [q1];exact getI_of q2
        unfold winStep at q3
        obtain ⟨z,hz1,hz2⟩:=Option.bind_eq_some_iff.1 q3
        obtain ⟨y2,hy1,hy2⟩:=Option.bind_eq_some_iff.1 hz2
        obtain ⟨k2,hk1,hk2⟩:=Option.bind_eq_some_iff.1 hy2
        injection hk2 with hk2
        injection hk2 with e1 e2
        subst e1
        unfold chk
        rw [hpn,cond_true,getI_of hWp,Option.bind_some]
        show cond true _ _=_
        rw [cond_true,hqn,cond_true,hgS,Option.bind_some,Option.bind_some,hz1,Option.bind_some,hy1,Option.bind_some,hk1,Option.bind_some,cond_true,Option.bind_some,cond_true,Option.bind_some,e2,q1,Int.toNat_natCast,Int.toNat_natCast]
        rfl
    obtain ⟨bl',W',S',hbody,hA'⟩:=hres
    have hpv:=pv_sound (E:=apEnv) (F:=roundF F g w2 (fun b'=>b'=r \/ b'=bm)) (by show F.n<=1000000;rw [hn];decide) (apEnv_ok _) ac (by rw [hacd.2.2];intro p hp;cases hp) roundQ _ _ g a2 w2 hacd.1 (fun d hd=>by show d < F.n;rw [hn];exact (hacd.2.1 d hd).1) ⟨by show _=F.n;exact hs2,hd2,hR4⟩ (htext.trans hbody)
    rw [hcode] at hpv
    refine Code.wp_mono (fun ex a3 w3 hp=>?_) hpv
    obtain ⟨x,st3,g3,rfl,hx,hAR,hL⟩:=hp
    cases x with
    | normal=>
      have hx:apObs2 st3=some ((p:Int),by_,W',S',M):=hx
      obtain ⟨s0,s5,so⟩:=obs2_some hx
      have hb3:=round_kept (b:=bm) (by rw [hsz2];exact (Array.getElem?_eq_some_iff.1 hb).1) (.inr rfl) hAR.rel
      have hr3:=round_kept (b:=r) (by rw [hsz2];exact hrl) (.inl rfl) hAR.rel
      have hU:=hAR.rel.unround (hR3.fr) (hR3.ows)
      obtain ⟨v1,v1',v1'',b1,p1,p2,p3⟩:=obs_pools hU so
      have k0:=hU.slots 0
      have k5:=hU.slots 5
      rw [s0] at k0
      rw [s5] at k5
      have hlt:=hL.lft (by intro e;cases e)
      have h593:tm a3 59=.pointer (some ⟨r,0,none⟩):=by
        rw [hlt.tmp 59 (fun hm=>(hacd.2.1 59 hm).2.2 rfl),t2 59 (by decide) (by decide) (by decide) (by decide) (by decide)];exact h59
      refine ⟨(leftOf ens (seen.push e.born)).size,by rw [hnl];exact left_shrinks ens seen e he,g3,W',S',v1,v1',v1'',b1,seen.push e.born,clock,bl',rfl,hAR.size,hAR.defers,h593,?_,?_,?_,Nat.le_refl _,?_,?_,hA'⟩
      · exact ap_canon hU p1 p2 p3 g3.ρ (leaf_any k0) (leaf_any k5) (.inl rfl)
      · have:w2.heap.size<=w3.heap.size:=hAR.rel.fr.size
        omega
      · rw [hr3.1];exact hr2
      · rw [hb3.1];exact hb2
      · rw [hr3.2];exact how
    | exit i=>cases hx
    | ret=>cases hx
    | goto i=>cases hx
end
theorem pool_ver {F:Fr} {g:Gh} {w:World} {k v v2:Nat} {e:Ty} {l:List e.D} {ver':Nat->Nat} (h:PoolOk F g w [.d (.arr v e) l] k) (hv:ver' k=v2):PoolOk F { g with ver:=ver' } w [.d (.arr v2 e) l] k:=by
 obtain ⟨e',l',h1,h2,h3⟩:=h
 rcases h1 with ⟨v1,h1,h4,h5⟩ | h1
 ·cases h1
  exact ⟨e,l,.inl ⟨v2,rfl,hv,h5⟩,h2,h3⟩
 ·cases h1
theorem inBlock_exit {id:Nat} {Q:Exit->Act->World->Prop} {a:Act} {w:World} (h:Q .normal a w):Exit.inBlock id Q (.exit id) a w:=by
 show (if id=id then Q .normal a w else Q (.exit id) a w)
 rw [if_pos rfl];exact h
theorem headC_some {s:PSt} {m:Int} {x:Int×Int×List ApW×List ApS×List ApM} (h:headC s=some (m,x)):s.φ 58=.w false [.d (.mp 51) m] /\ apObs2 s=some x:=by
 unfold headC at h
 split at h
 ·rename_i T m' h58
  split at h
  ·rename_i x' hT ho
   injection h with h
   injection h with q1 q2
   subst q1;subst q2
   rw [Nat.eq_of_beq_eq_true hT] at h58
   exact ⟨h58,ho⟩
  ·cases h
 ·cases h
theorem ap_walk1 {F:Fr} (hn:F.n=89) (hPT:¬ F.PT kM) {g:Gh} {st:PSt} {a:Act} {w:World} (hAR:AR F g st a w) {p by_:Int} {v v' v'':Nat} {b:Bool} {e e' e'':Ty} {l:List e.D} {l':List e'.D} {l'':List e''.D} {W:List ApW} {S:List ApS} {M:List ApM} (h0:st.φ 0=.w false [.d (.ptr 59) p]) (h5:st.φ 5=.w false [.d (.int .i64) by_])
    (hp1:poolL st.L kW=some (true,v,⟨e,l⟩)) (hp2:poolL st.L kS=some (true,v',⟨e',l'⟩)) (hp3:poolL st.L kM=some (b,v'',⟨e'',l''⟩)) (c1:castD (t:=.sl e) (.sl apWt) l=some W) (c2:castD (t:=.sl e') (.sl apSt) l'=some S) (c3:castD (t:=.sl e'') (.sl apMt) l''=some M) (hok:apOk by_ p M W S=true) :
    apTailC.wp Tryd.prog (fun ex a' w' => ex = .ret /\ ∃ g', AR F g' ⟨fun i => match Nat.beq i 2 with | true => pbool true | false => .dead,
          fun k=>match Nat.beq k kW with | true=>some (0,[.d (.arr (v+1) apWt) (apW by_ p M W S)]) | false=>match Nat.beq k kS with | true=>some (0,[.d (.arr (v'+1) apSt) (apS by_ p M W S)]) | false=>match Nat.beq k kM with | true=>(match st.L kM with | some (_,ls)=>some (0,ls) | none=>none) | false=>none,
          fun t=>tokEq t .zero,[],[],[]⟩ a' w' /\ g'.ρ=g.ρ) a w:=by
  have k0:=hAR.rel.slots 0
  have k5:=hAR.rel.slots 5
  rw [h0] at k0
  rw [h5] at k5
  have hR0:=ap_canon hAR.rel (pool_cast hAR.rel hp1 (isPool_pk _) c1) (pool_cast hAR.rel hp2 (isPool_pk _) c2) (pool_cast hAR.rel hp3 (isPool_mk _) c3) g.ρ (tmf':=tm a) (p:=p) (by_:=by_) (leaf_any k0) (leaf_any k5) (.inl rfl)
  -- what must hold
  unfold apOk at hok
  split at hok
  case h_2=>cases hok
  rename_i w00 ms0 hes
  rw [Bool.and_eq_true,decide_eq_true_eq] at hok
  obtain ⟨hall,hnd⟩:=hok
  unfold apEs at hes
  obtain ⟨w0,hgW,hes⟩:=Option.bind_eq_some_iff.1 hes
  obtain ⟨ms,hgM,hes⟩:=Option.bind_eq_some_iff.1 hes
  injection hes with hes
  injection hes with q1 q2
  subst q1;subst q2
  obtain ⟨pn,rfl,hW0⟩:=getI_n hgW
  obtain ⟨mi,hmi,hMi⟩:=getI_n hgM
  rw [ap_shape]
  refine wp_seq (wp_seq (wp_region_list ?_))
  obtain ⟨o5,hd5,ho5⟩:=one_map ops7_last
  injection ho5 with e51 ho5
  injection ho5 with e52 e53
  rw [(List.take_append_drop 4 ops7.toList).symm,hd5]
  have htext:=congrFun (congrFun (congrFun (congrFun (congrFun (head_text v v' v'' b) (pn:Int)) by_) W) S) M
  have htext:pvOps apEnv ops7 (ops7.toList.take 4) [] (apSt2 .dead v v' v'' b (pn:Int) by_ W S M) (fun _ s=>headC s)=chk (nnI (pn:Int)) ((getI W (pn:Int)).bind fun w=>some (w.2.2.2.2.2.2.2.1,((pn:Int),by_,W,S,M))):=htext
  have hval:pvOps apEnv ops7 (ops7.toList.take 4) [] (apSt2 .dead v v' v'' b (pn:Int) by_ W S M) (fun _ s=>headC s)=some ((mi:Int),((pn:Int),by_,W,S,M)):=by
    rw [htext,hgW,Option.bind_some,hmi]
    unfold chk
    rw [show nnI (pn:Int)=true from decide_eq_true (by omega),cond_true]
  refine pvOps_pre (E:=apEnv) (M:=fun i=>54 < i /\ i < 60) (apEnv_ok F) [o5] (ops7.toList.take 4) [] _ _ a w (fun _ s=>headC s) (fun o ho x hx=>?_) ⟨hAR.size,hAR.defers,hR0⟩ hval fun a1 w1 g1 tr1 st1 hC1 hAR1 hl1=>?_
  · have hm:some x∈ops7.toList.map (·.dst):=List.mem_map.2 ⟨o,List.mem_of_mem_take ho,hx⟩
    rw [ops7_dst] at hm
    simp only [List.mem_cons,Option.some.injEq,List.not_mem_nil,or_false] at hm
    rw [hn]
    rcases hm with rfl | rfl | rfl | rfl | rfl <;> decide
  obtain ⟨h58,hobs⟩:=headC_some hC1
  obtain ⟨s0,s5,so⟩:=obs2_some hobs
  obtain ⟨v1,v1',v1'',b1,p1,p2,p3⟩:=obs_pools hAR1.rel so
  have j0:=hAR1.rel.slots 0
  have j5:=hAR1.rel.slots 5
  have j58:=hAR1.rel.slots 58
  rw [s0] at j0
  rw [s5] at j5
  rw [h58] at j58
  have hR1:=ap_canon hAR1.rel p1 p2 p3 g1.ρ (tmf':=tm a1) (leaf_any j0) (leaf_any j5) (.inl rfl)
  obtain ⟨pp,hp,hv58⟩:=rel_leaf.1 j58
  obtain ⟨bm,hCi,h58v⟩:∃ bm,g1.C.i kM mi=some bm /\ tm a1 58=.map (some bm):=by
    rcases hp with ⟨e1,_⟩ | ⟨n,blk,e1,hi,rfl⟩
    · have e1:(mi:Int) = -1:=e1
      omega
    · have e1:(mi:Int)=(n:Int):=e1
      have:mi=n:=by omega
      subst this
      refine ⟨blk,hi,?_⟩
      injection hv58
  have hC0:F.C0.i kM mi=some bm:=(hR1.ows.i kM hPT mi).symm.trans hCi
  obtain ⟨hob,ens,clock,hb1,hE⟩:=map_here hR1 hPT hMi hC0
  have hbl:bm < w1.heap.size:=(Array.getElem?_eq_some_iff.1 hb1).1
  have hrange:(Instr.range 51 (tm a1 58)).run Tryd.prog w1=.ok (.pointer (some ⟨w1.heap.size,0,none⟩)) (w1.alloc (.mapIter (some bm) clock #[] clock)):=by
    rw [h58v]
    exact run_range_map w1 51 _ _ bm ens clock Tryd.underlying51 hb1
  refine wpl_val (v:=.pointer (some ⟨w1.heap.size,0,none⟩)) e53 (run_of (s:=Instr.range 51 (tm a1 58)) (by unfold execOp;rw [e52] <;> rfl) hrange) (wpList_nil ?_)
  rw [e51]
  obtain ⟨w2,hw2⟩:∃ w2,w1.alloc (.mapIter (some bm) clock #[] clock)=w2:=⟨_,rfl⟩
  obtain ⟨a2,ha2⟩:∃ a2,a1.put (some 59) (.pointer (some ⟨w1.heap.size,0,none⟩))=a2:=⟨_,rfl⟩
  rw [hw2,ha2]
  have hs2:a2.tmps.size=F.n:=by rw [<-ha2,put_size];exact hAR1.size
  have hd2:a2.defers=[]:=by rw [<-ha2,put_defers];exact hAR1.defers
  have t2:∀ i,tm a2 i=if 59=i then .pointer (some ⟨w1.heap.size,0,none⟩) else tm a1 i:=fun i=>by rw [<-ha2];exact tm_at (by rw [hAR1.size,hn];decide)
  have hsz2:w2.heap.size=w1.heap.size+1:=by rw [<-hw2,World.size_alloc]
  have hold2:∀ b',b' < w1.heap.size->w2.heap[b']? = w1.heap[b']?:=fun b' hb'=>by rw [<-hw2];exact (show (w1.heap.push _)[b']? = _ from by rw [Array.getElem?_push_lt hb',Array.getElem?_eq_getElem hb'])
  have hr2:w2.heap[w1.heap.size]? = some (.mapIter (some bm) clock #[] clock):=by rw [<-hw2];exact (show (w1.heap.push _)[w1.heap.size]? = _ from by simp)
  have how2:g1.ow w1.heap.size=none:=by
    cases ho:g1.ow w1.heap.size with
    | none=>rfl
    | some x=>have:=hR1.ows.lim _ _ ho;omega
  have hR2:=hR1.apart (w':=w2) (r:=w1.heap.size) (by omega) (fun b' hb' _=>hold2 b' hb') hR1.fr.size (fun o s=>by unfold World.cell?;rw [Array.getElem?_eq_none (Nat.le_refl _)]) (by rw [<-hw2];rfl) (by rw [<-hw2];rfl) (by rw [<-hw2];rfl)
    (fun t ht=>by
      have ht:tokEq t .zero=true:=ht
      have:t=.zero:=by cases t <;> first | rfl | cases ht
      rw [this,hR1.blk0];intro e;cases e) (fun k x hL np=>by rw [apL2_pool hL] at np;cases np) how2
  have i0:=hR2.slots 0
  have i5:=hR2.slots 5
  have hR3:=ap_canon hR2 (hR2.pools kW 0 _ rfl (isPool_pk _)) (hR2.pools kS 0 _ rfl (isPool_pk _)) (hR2.pools kM 0 _ rfl (isPool_mk _)) g1.ρ (tmf':=tm a2) (by rw [t2 0,if_neg (by decide)];exact leaf_any i0) (by rw [t2 5,if_neg (by decide)];exact leaf_any i5) (.inl rfl)
  have hI0:apInv F w1.heap.size bm ens clock pn by_ ms M W w0 S (leftOf ens #[]).size a2 w2:=
    ⟨g1,W,S,v1,v1',v1'',b1,#[],clock,w0.2.2.2.2.1,rfl,hs2,hd2,by rw [t2 59,if_pos rfl],hR3,by omega,hr2,Nat.le_refl _,by rw [hold2 bm hbl];exact hb1,how2,ApRel.start hW0 hall⟩
  show (Code.block 0 (.loop _)).wp Tryd.prog _ a2 w2
  refine wp_block (wp_loop_ghost (apInv F w1.heap.size bm ens clock pn by_ ms M W w0 S) _ hI0 (fun n a w hI=>ap_round hn hPT hR1.fr.size (by omega) hMi hC0 hW0 hall hnd (fun a4 w4 hI4=>?_) n a w hI))
  obtain ⟨g4,W4,S4,v4,v4',v4'',b4,seen,c4,bl,hz,hs4,hd4,h594,hR4,hrl4,hr4,hcc4,hb4,how4,hA4⟩:=hI4
  have hE4:=(map_here hR4 hPT hMi hC0).2
  obtain ⟨hdW,hdl,hdS⟩:=hA4.done hW0 M hgM hall hE.1 fun x hx=>all_seen ens seen hz.symm x hx
  refine inBlock_exit ?_
  show (Code.seq (.region 13 ops13 false) .ret).wp Tryd.prog _ a4 w4
  refine wp_seq (wp13 hn hs4 ?_)
  refine wp_ret ⟨rfl,{ g4 with ρ:=g.ρ,ver:=fun k=>if k=kW then v+1 else if k=kS then v'+1 else g4.ver k },⟨by rw [put_size];exact hs4,by rw [put_defers];exact hd4,?_⟩,rfl⟩
  have hkWS:kS≠kW:=by decide
  refine MRel.to_pools_ver g.ρ _ hR4 (fun k σ ls hL=>?_) (fun t ht=>?_) rfl rfl rfl (fun i=>?_) (fun i t want ag ls e=>?_) (fun i=>?_)
  · have hL:(match Nat.beq k kW with | true=>some (0,[.d (.arr (v+1) apWt) (apW by_ (pn:Int) M W S)]) | false=>match Nat.beq k kS with | true=>some (0,[.d (.arr (v'+1) apSt) (apS by_ (pn:Int) M W S)]) | false=>match Nat.beq k kM with | true=>(match st.L kM with | some (_,ls)=>some (0,ls) | none=>none) | false=>none)=some (σ,ls):=hL
    split at hL
    · rename_i hk
      have hk:=Nat.eq_of_beq_eq_true hk
      subst hk
      cases hL
      have hp:=hR4.pools kW 0 _ rfl (isPool_pk _)
      rw [<-hdW]
      exact ⟨rfl,isPool_pk _,pool_ver hp (if_pos rfl)⟩
    · split at hL
      · rename_i hk
        have hk:=Nat.eq_of_beq_eq_true hk
        subst hk
        cases hL
        have hp:=ap_weak (hR4.pools kS 0 _ rfl (isPool_pk _)) hdl hdS
        exact ⟨rfl,isPool_pk _,pool_ver hp (by rw [if_neg hkWS,if_pos rfl])⟩
      · split at hL
        · rename_i hk
          have hk:=Nat.eq_of_beq_eq_true hk
          subst hk
          have hp:=hR4.pools kM 0 _ rfl (isPool_mk _)
          -- the map's pool is only read
          have hb4:b4=false:=by
            cases hb:b4 with
            | false=>rfl
            | true=>
              rw [hb] at hp
              obtain ⟨_,_,h1,_⟩:=hp
              rcases h1 with ⟨_,h1,_,h5⟩ | h1
              · exact (hPT h5).elim
              · cases h1
          have hbf:b=false:=by
            cases hb:b with
            | false=>rfl
            | true=>
              have hp:=pool_cast hAR.rel hp3 (isPool_mk _) c3
              rw [hb] at hp
              obtain ⟨_,_,h1,_⟩:=hp
              rcases h1 with ⟨_,h1,_,h5⟩ | h1
              · exact (hPT h5).elim
              · cases h1
          subst hbf
          obtain ⟨he,hx⟩:=castD_some c3
          injection he with he
          subst he
          subst hx
          obtain ⟨σ',hq⟩:=poolL_some hp3
          rcases hq with ⟨q,_⟩ | ⟨_,_,hq⟩
          · cases q
          · rw [hq] at hL
            cases hL
            rw [hb4] at hp
            obtain ⟨e2,l2,g1',g2,g3⟩:=hp
            rcases g1' with ⟨_,g1',_⟩ | g1'
            · cases g1'
            · cases g1'
              exact ⟨rfl,isPool_mk _,⟨_,_,.inr rfl,g2,g3⟩⟩
        · cases hL
  · have ht:tokEq t .zero=true:=ht
    cases t <;> first | rfl | cases ht
  · show RelP F _ w4 _ (tm (a4.put (some 2) (.bool true))) (tm (a4.put (some 2) (.bool true)) i) (match Nat.beq i 2 with | true=>pbool true | false=>.dead)
    cases h2:Nat.beq i 2 with
    | true=>
      have:=Nat.eq_of_beq_eq_true h2
      subst this
      rw [tm_at (by rw [hs4,hn];decide),if_pos rfl]
      exact ⟨_,repLs_single.2 rfl,rfl⟩
    | false=>trivial
  · have e:(match Nat.beq i 2 with | true=>pbool true | false=>.dead)=.spec t want ag ls:=e
    split at e <;> cases e
  · show keyP (match Nat.beq i 2 with | true=>pbool true | false=>.dead)=[]
    split <;> rfl
theorem ap_walk {F:Fr} (hn:F.n=89) (hPT:¬ F.PT kM):HandS Tryd.prog F apTailC apTail:=by
 intro g st st' a w hAR hst
 unfold apTail at hst
 split at hst
 case h_2=>cases hst
 rename_i T p by_ h0 h5
 split at hst
 ·cases hst
 rename_i hT
 have hT:=Nat.eq_of_beq_eq_true hT
 subst hT
 split at hst
 case h_2=>cases hst
 rename_i v e l v' e' l' b v'' e'' l'' hp1 hp2 hp3
 split at hst
 case h_2=>cases hst
 rename_i W S M c1 c2 c3
 injection hst with hst
 injection hst with hok hst
 rw [<-hst]
 exact ap_walk1 hn hPT hAR h0 h5 hp1 hp2 hp3 c1 c2 c3 hok
theorem ap_hand_any (F:Fr) (hn:F.n=Tryd.f34.ntmps) (hPT:¬ F.PT kM):∀ c ac k,Tryd.f34.body=some c->annot apAnn c 0=some (ac,k) -> ∀ p∈(ac.handTail 7 apTail).hands,HandS Tryd.prog F p.1 p.2:=by
 intro c ac k hc hac p hp
 have h:=ap_hands
 unfold apHands at h
 rw [hc] at h
 dsimp only at h
 rw [hac] at h
 dsimp only at h
 rw [h] at hp
 rw [List.mem_singleton.1 hp]
 exact ap_walk (hn.trans (by kernel_rfl)) hPT
end Go.Proofs.YtifbhefbhlbofaaDoor
namespace Go.Proofs.YtifbhefbhlbofaaDoor
open Pv
set_option linter.unusedVariables false
theorem F_watch_Watch_applies_hand:∀ F:Fr,F.n=Tryd.f34.ntmps->(∀ k,F.PT k ↔ ∃ e,(k,e,true)∈F_watch_Watch_applies_sig.pls) -> ∀ c ac k,Tryd.f34.body=some c->annot F_watch_Watch_applies_ann c 0=some (ac,k) -> ∀ p∈(ac.handTail 7 apTail).hands,HandS Tryd.prog F p.1 p.2:=by
 intro F hn hPT
 refine ap_hand_any F hn fun h=>?_
 obtain ⟨e,he⟩:=(hPT kM).1 h
 have hk:∀ q∈F_watch_Watch_applies_sig.pls,¬ (q.1=kM /\ q.2.2=true):=by
  intro q hq
  rcases List.mem_cons.1 hq with rfl | hq
  ·intro h;cases h.2
  ·rcases List.mem_cons.1 hq with rfl | hq
   ·intro h;exact absurd h.1 (by decide)
   ·rcases List.mem_cons.1 hq with rfl | hq
    ·intro h;exact absurd h.1 (by decide)
    ·cases hq
 exact hk _ he ⟨rfl,rfl⟩
end Go.Proofs.YtifbhefbhlbofaaDoor
namespace Go.Proofs.YtifbhefbhlbofaaDoor
open Go.RowKit Go.Lib Pv
set_option linter.unusedVariables false

set_option maxHeartbeats 4000000 in
set_option maxRecDepth 1000000 in
theorem scl_at (a:Addr) (n c:Nat) (l:List Int) (w:World) (hl:l.length=n) (hbig:n<=140737488355328) (hc:∀ (i:Nat) x,l[i]? = some x->w.cell? (a.add i)=some (.int .u8 x)) :
  Calls Tryd.prog 63 #[.slice (some a) n c] w fun e w'=>∃ v',e=.returned v' /\ w'.ownsRow w.heap.size 5 1 v' n (l.map (Value.int .u8)) /\ Below w.heap.size w w':=by
 obtain ⟨i0,hi,hz0,hz1,hz2⟩:=info_parts infoU
 have q22:∀ (w:World) (a:Option Addr) (n c n' c':Nat),(binOp .eql 26 (.slice a n c) (.slice none n' c')).run Tryd.prog w=.ok (.bool a.isNone) w:=fun w a n c n' c'=>Lib.run_eql_slice_nil w _ _ a n c n' c' Tryd.underlying26
 have A:Aside (∀ (i:Nat) x,l[i]? = some x->w.cell? (a.add i)=some (.int .u8 x)):=hc
 clear hc
 go_enter Tryd.func63,Tryd.ntmps63
 go_wp2_with (at_builtin;refine wpList_append_own _ rfl _ _ 26 rfl w.heap.size 5 i0 (.int .u8 0) 1 1 Tryd.underlying26 hi hz0 hz1 hz2 rfl (by decide) _ _ _ rfl (World.ownsRow_made w #[] 0 (Nat.le_refl _) (Nat.zero_le _) rfl) a n c (l.map (Value.int .u8)) rfl ?qc1 ?qc2 ?qc3 ?qc4 ?qc5 ?qc6 ?_)
 case qc1=>simp;omega
 case qc2=>
  intro j u hj
  rw [List.getElem?_map] at hj
  obtain ⟨x,hx,rfl⟩:=Option.map_eq_some_iff.1 hj
  exact Lib.cell?_alloc_some _ (A.out j x hx)
 case qc3=>intro u hu;obtain ⟨x,_,rfl⟩:=List.mem_map.1 hu;rfl
 case qc4=>unfold maxLen;omega
 case qc5=>omega
 case qc6=>simp
 intro v' w1 hown hgrow hnil
 go_wp2
 go_ret
 exact ⟨v',rfl,by simpa using hown,((Below.refl _ w).alloc (Nat.le_refl _) _).grown hgrow (by simp) (by intro k hk;simp [Value.ownBlock] at hk;omega)⟩
set_option maxHeartbeats 4000000 in
theorem scl_nil (n c:Nat) (w:World):Calls Tryd.prog 63 #[.slice none n c] w fun e w'=>e=.returned (.slice none 0 0) /\ w'=w:=by
 have q22:∀ (w:World) (a:Option Addr) (n c n' c':Nat),(binOp .eql 26 (.slice a n c) (.slice none n' c')).run Tryd.prog w=.ok (.bool a.isNone) w:=fun w a n c n' c'=>Lib.run_eql_slice_nil w _ _ a n c n' c' Tryd.underlying26
 go_enter Tryd.func63,Tryd.ntmps63
 go_wp2
 go_ret
 exact ⟨rfl,rfl⟩
theorem F_slices_Clone_byte_byte_sound {T:Tab}:SoundFn Tryd.prog T 63 F_slices_Clone_byte_byte_sig ⟨F_slices_Clone_byte_byte⟩:=by
 refine sound_of rfl fun F g O xs ls y tmf w args hT hw hlim hls happ hsz hr=>?_
 obtain ⟨(l:List Int),xs',rfl,h2⟩:=appF_inv_c (ts:=[]) happ
 obtain ⟨rfl,h3⟩:=appF_inv_n h2
 have hls':some [Leaf.d (.sl (.int .u8)) l]=some ls:=hls
 injection hls' with hls'
 subst hls'
 obtain ⟨a,n,c,e0,e1,e2,e3,e4,e5,e6⟩:=rel_ints (hr 0)
 rw [args_1 hsz,e0]
 have h3:cond (Nat.ble l.length 100000000) (some l) none=some y:=h3
 cases hb:Nat.ble l.length 100000000 with
 | false=>rw [hb] at h3;cases h3
 | true=>
  rw [hb] at h3
  have hy:l=y:=by injection h3
  have hb:=Nat.le_of_ble_eq_true hb
  subst hy
  cases a with
  | none=>
   have hl:=e6 rfl
   refine (scl_nil n c w).mono ?_
   rintro e w' ⟨rfl,rfl⟩
   exact own_row (l:=l) hw hlim (Below.refl _ _) (by rw [hl];exact World.ownsRow_nil _ _ _ _) e4 rfl rfl
  | some ad=>
   refine (scl_at ad n c l w e1 (by omega) (e5 ad rfl)).mono ?_
   rintro e w' ⟨v,rfl,h1,h2⟩
   exact own_row (l:=l) hw hlim h2 (by rw [e1];exact h1) e4 rfl rfl

set_option maxHeartbeats 4000000 in
set_option maxRecDepth 1000000 in
theorem bcl_at (a:Addr) (n c:Nat) (l:List Int) (w:World) (hl:l.length=n) (hbig:n<=140737488355328) (hc:∀ (i:Nat) x,l[i]? = some x->w.cell? (a.add i)=some (.int .u8 x)) :
  Calls Tryd.prog 29 #[.slice (some a) n c] w fun e w'=>∃ v',e=.returned v' /\ w'.ownsRow w.heap.size 5 1 v' n (l.map (Value.int .u8)) /\ Below w.heap.size w w':=by
 obtain ⟨i0,hi,hz0,hz1,hz2⟩:=info_parts infoU
 have q22:∀ (w:World) (a:Option Addr) (n c n' c':Nat),(binOp .eql 26 (.slice a n c) (.slice none n' c')).run Tryd.prog w=.ok (.bool a.isNone) w:=fun w a n c n' c'=>Lib.run_eql_slice_nil w _ _ a n c n' c' Tryd.underlying26
 have A:Aside (∀ (i:Nat) x,l[i]? = some x->w.cell? (a.add i)=some (.int .u8 x)):=hc
 clear hc
 go_enter Tryd.func29,Tryd.ntmps29
 go_wp2_with (at_builtin;refine wpList_append_own _ rfl _ _ 26 rfl w.heap.size 5 i0 (.int .u8 0) 1 1 Tryd.underlying26 hi hz0 hz1 hz2 rfl (by decide) _ _ _ rfl (World.ownsRow_made w #[] 0 (Nat.le_refl _) (Nat.zero_le _) rfl) a n c (l.map (Value.int .u8)) rfl ?qc1 ?qc2 ?qc3 ?qc4 ?qc5 ?qc6 ?_)
 case qc1=>simp;omega
 case qc2=>
  intro j u hj
  rw [List.getElem?_map] at hj
  obtain ⟨x,hx,rfl⟩:=Option.map_eq_some_iff.1 hj
  exact Lib.cell?_alloc_some _ (A.out j x hx)
 case qc3=>intro u hu;obtain ⟨x,_,rfl⟩:=List.mem_map.1 hu;rfl
 case qc4=>unfold maxLen;omega
 case qc5=>omega
 case qc6=>simp
 intro v' w1 hown hgrow hnil
 go_wp2
 go_ret
 exact ⟨v',rfl,by simpa using hown,((Below.refl _ w).alloc (Nat.le_refl _) _).grown hgrow (by simp) (by intro k hk;simp [Value.ownBlock] at hk;omega)⟩
set_option maxHeartbeats 4000000 in
theorem bcl_nil (n c:Nat) (w:World):Calls Tryd.prog 29 #[.slice none n c] w fun e w'=>e=.returned (.slice none 0 0) /\ w'=w:=by
 have q22:∀ (w:World) (a:Option Addr) (n c n' c':Nat),(binOp .eql 26 (.slice a n c) (.slice none n' c')).run Tryd.prog w=.ok (.bool a.isNone) w:=fun w a n c n' c'=>Lib.run_eql_slice_nil w _ _ a n c n' c' Tryd.underlying26
 go_enter Tryd.func29,Tryd.ntmps29
 go_wp2
 go_ret
 exact ⟨rfl,rfl⟩
theorem F_bytes_Clone_sound {T:Tab}:SoundFn Tryd.prog T 29 F_bytes_Clone_sig ⟨F_bytes_Clone⟩:=by
 refine sound_of rfl fun F g O xs ls y tmf w args hT hw hlim hls happ hsz hr=>?_
 obtain ⟨(l:List Int),xs',rfl,h2⟩:=appF_inv_c (ts:=[]) happ
 obtain ⟨rfl,h3⟩:=appF_inv_n h2
 have hls':some [Leaf.d (.sl (.int .u8)) l]=some ls:=hls
 injection hls' with hls'
 subst hls'
 obtain ⟨a,n,c,e0,e1,e2,e3,e4,e5,e6⟩:=rel_ints (hr 0)
 rw [args_1 hsz,e0]
 have h3:cond (Nat.ble l.length 100000000) (some l) none=some y:=h3
 cases hb:Nat.ble l.length 100000000 with
 | false=>rw [hb] at h3;cases h3
 | true=>
  rw [hb] at h3
  have hy:l=y:=by injection h3
  have hb:=Nat.le_of_ble_eq_true hb
  subst hy
  cases a with
  | none=>
   have hl:=e6 rfl
   refine (bcl_nil n c w).mono ?_
   rintro e w' ⟨rfl,rfl⟩
   exact own_row (l:=l) hw hlim (Below.refl _ _) (by rw [hl];exact World.ownsRow_nil _ _ _ _) e4 rfl rfl
  | some ad=>
   refine (bcl_at ad n c l w e1 (by omega) (e5 ad rfl)).mono ?_
   rintro e w' ⟨v,rfl,h1,h2⟩
   exact own_row (l:=l) hw hlim h2 (by rw [e1];exact h1) e4 rfl rfl
def fieldT:Ty:=.pr .str (.pr .str .bool)
def fieldZ:Value:=.agg #[.string ⟨#[]⟩,.string ⟨#[]⟩,.bool false]
theorem infoF:(Tryd.prog.info? 109).map (fun i=>(i.zero,i.size,i.bytes))=some (some fieldZ,3,40):=by kernel_rfl
set_option maxHeartbeats 4000000 in
set_option maxRecDepth 1000000 in
theorem clf_at (a:Addr) (n c:Nat) (news:List Value) (w:World) (hl:news.length=n*3) (hbig:n<=1000000) (hc:∀ j u,news[j]? = some u->w.cell? (a.add j)=some u) (h1:∀ u∈news,u.oneCell'=true) :
  Calls Tryd.prog 58 #[.slice (some a) n c] w fun e w'=>∃ v',e=.returned v' /\ w'.ownsRow w.heap.size 109 3 v' n news /\ Below w.heap.size w w':=by
 obtain ⟨i0,hi,hz0,hz1,hz2⟩:=info_parts infoF
 have q22:∀ (w:World) (a:Option Addr) (n c n' c':Nat),(binOp .eql 89 (.slice a n c) (.slice none n' c')).run Tryd.prog w=.ok (.bool a.isNone) w:=fun w a n c n' c'=>Lib.run_eql_slice_nil w _ _ a n c n' c' Tryd.underlying89
 have A:Aside (∀ j u,news[j]? = some u->w.cell? (a.add j)=some u):=hc
 have B:Aside (∀ u∈news,u.oneCell'=true):=h1
 clear hc h1
 go_enter Tryd.func58,Tryd.ntmps58
 go_wp2_with (at_builtin;refine wpList_append_own _ rfl _ _ 89 rfl w.heap.size 109 i0 fieldZ 3 40 Tryd.underlying89 hi hz0 hz1 hz2 rfl (by decide) _ _ _ rfl (World.ownsRow_made w #[] 0 (Nat.le_refl _) (Nat.zero_le _) rfl) a n c news rfl ?qc1 ?qc2 ?qc3 ?qc4 ?qc5 ?qc6 ?_)
 case qc1=>exact hl
 case qc2=>
  intro j u hj
  exact Lib.cell?_alloc_some _ (A.out j u hj)
 case qc3=>exact B.out
 case qc4=>unfold maxLen;omega
 case qc5=>omega
 case qc6=>simp
 intro v' w1 hown hgrow hnil
 go_wp2
 go_ret
 exact ⟨v',rfl,by simpa using hown,((Below.refl _ w).alloc (Nat.le_refl _) _).grown hgrow (by simp) (by intro k hk;simp [Value.ownBlock] at hk;omega)⟩
set_option maxHeartbeats 4000000 in
theorem clf_nil (n c:Nat) (w:World):Calls Tryd.prog 58 #[.slice none n c] w fun e w'=>e=.returned (.slice none 0 0) /\ w'=w:=by
 have q22:∀ (w:World) (a:Option Addr) (n c n' c':Nat),(binOp .eql 89 (.slice a n c) (.slice none n' c')).run Tryd.prog w=.ok (.bool a.isNone) w:=fun w a n c n' c'=>Lib.run_eql_slice_nil w _ _ a n c n' c' Tryd.underlying89
 go_enter Tryd.func58,Tryd.ntmps58
 go_wp2
 go_ret
 exact ⟨rfl,rfl⟩
theorem F_slices_Clone_stat_Field_stat_Field_sound {T:Tab}:SoundFn Tryd.prog T 58 F_slices_Clone_stat_Field_stat_Field_sig ⟨F_slices_Clone_stat_Field_stat_Field⟩:=by
 refine sound_of rfl fun F g O xs ls y tmf w args hT hw hlim hls happ hsz hr=>?_
 obtain ⟨(l:List fieldT.D),xs',rfl,h2⟩:=appF_inv_c (ts:=[]) happ
 obtain ⟨rfl,h3⟩:=appF_inv_n h2
 have hls':some [Leaf.d (.sl fieldT) l]=some ls:=hls
 injection hls' with hls'
 subst hls'
 obtain ⟨a,n,c,e0,e1,e2,e3,e4⟩:=rel_leaf.1 (hr 0)
 have hrep:RepD w g.C (.sl fieldT) l [.slice a n c]:=⟨a,n,c,rfl,e1,e2,e3,e4⟩
 have e0:args.getD 0 undef=.slice a n c:=by injection e0
 rw [args_1 hsz,e0]
 have h3:cond (Nat.ble l.length 1000000) (some l) none=some y:=h3
 cases hb:Nat.ble l.length 1000000 with
 | false=>rw [hb] at h3;cases h3
 | true=>
  rw [hb] at h3
  have hy:l=y:=by injection h3
  have hb:=Nat.le_of_ble_eq_true hb
  subst hy
  cases a with
  | none=>
   have hl:l=[]:=by
    cases l with
    | nil=>rfl
    | cons x r=>
     obtain ⟨ad,us,q,_⟩:=e4 0 x rfl
     cases q
   subst hl
   refine (clf_nil n c w).mono ?_
   rintro e w' ⟨rfl,rfl⟩
   exact own_nil hlim (Below.refl _ _) rfl rfl
  | some ad=>
   obtain ⟨news,n1,n2,n3,n4⟩:=slice_cells (e:=fieldT) (by decide) hrep
   refine (clf_at ad n c news w (by rw [n1,e1];rfl) (by omega) n2 n3).mono ?_
   rintro e w' ⟨v,rfl,hrow,hbel⟩
   obtain ⟨h0,⟨rfl,hn⟩ | ⟨b,cap,cur,rfl,k2,k3,k4,k5,k6,k7⟩⟩:=hrow
   ·have hl:l=[]:=List.eq_nil_of_length_eq_zero (by omega)
    subst hl
    exact own_nil hlim hbel rfl rfl
   ·subst e1
    refine own_out (e:=fieldT) (l:=l) hw hlim hbel k2 k3 k4 k5 k6 (fun i x hx=>?_) rfl rfl
    have hin:i < l.length:=(List.getElem?_eq_some_iff.1 hx).1
    have r1:=n4 i x hx
    have r2:RepD w' ⟨fun b' o=>g.C b' o \/ (b'=b /\ o < l.length*fieldT.size),g.C.i⟩ fieldT x ((news.drop (i*fieldT.size)).take fieldT.size):=RepD.gw (C:=g.C) (C':=⟨fun b' o=>g.C b' o \/ (b'=b /\ o < l.length*fieldT.size),g.C.i⟩) ⟨fun a u hu hC=>⟨by rw [hbel.cell (cell_lt hu)];exact hu,(by show g.C.c _ _ \/ _;exact Or.inl hC)⟩,fun _ _ _ q=>q⟩ r1
    have e7:(cur.toList.drop (i*fieldT.size)).take fieldT.size=(news.drop (i*fieldT.size)).take fieldT.size:=by
     show (cur.toList.drop (i*3)).take 3=(news.drop (i*3)).take 3
     rw [<-k7,List.drop_take,List.take_take]
     congr 1
     omega
    rw [e7]
    exact r2
def growRen:Go.Shelf.Ren:=⟨fun | 4=>38 | n=>n,fun | 22=>26 | 25=>5 | n=>n,fun n=>n⟩
theorem growLays:Lays8.n4 Tryd.prog growRen:={
 mixed:=by kernel_rfl
 f4 := ⟨"slices.Grow[[]byte,byte]", by decide, Tryd.func38.trans (congrArg some (by kernel_rfl))⟩
 t0:=Tryd.underlying0
 a0:=Tryd.isAgg0
 z0:=Tryd.sizeOf0
 v0:=Tryd.zeroValue0
 t3:=Tryd.underlying3
 a3:=Tryd.isAgg3
 z3:=Tryd.sizeOf3
 v3:=Tryd.zeroValue3
 t4:=Tryd.underlying4
 a4:=Tryd.isAgg4
 z4:=Tryd.sizeOf4
 v4:=Tryd.zeroValue4
 t9:=Tryd.underlying9
 a9:=Tryd.isAgg9
 z9:=Tryd.sizeOf9
 v9:=Tryd.zeroValue9
 t20:=Tryd.underlying20
 a20:=Tryd.isAgg20
 z20:=Tryd.sizeOf20
 v20:=Tryd.zeroValue20
 t22:=Tryd.underlying26
 a22:=Tryd.isAgg26
 z22:=Tryd.sizeOf26
 v22:=Tryd.zeroValue26 }
theorem grow_nil (n:Nat) (hn:n<=1000000000) (w:World) :
  Calls Tryd.prog 38 #[.slice none 0 0,.int .i64 n] w fun e w'=>∃ v,e=.returned v /\ w'.ownsRow w.heap.size 5 1 v 0 [] /\ Below w.heap.size w w':=by
 obtain ⟨i0,hi,hz0,hz1,hz2⟩:=info_parts infoU
 by_cases h0:n=0
 ·subst h0
  refine (Any8.slices_Grow_room growLays none 0 0 0 w (Nat.le_refl _) (by omega) (by omega) (Nat.le_refl _)).mono ?_
  rintro e w' ⟨rfl,rfl⟩
  exact ⟨_,rfl,World.ownsRow_nil _ _ _ _,Below.refl _ _⟩
 ·refine (Any8.slices_Grow_grow growLays i0 (.int .u8 0) hi hz0 (by rw [hz1];decide) none 0 0 n [] w (Nat.le_refl _) (by omega) (by rw [hz2];omega) (by omega) (by simp) (fun _=>rfl) (fun a h=>by cases h)).mono ?_
  rintro e w' ⟨rfl,rfl⟩
  have hge:=grownCap_ge w (0+n) 0 5
  have hle:=grownCap_le_maxLen w (0+n) 0 5 (by unfold maxLen;omega)
  refine ⟨_,rfl,World.ownsRow_made w.drew _ _ (Nat.le_refl _) hle ?_,((Below.refl _ w).drew).alloc (Nat.le_refl _) _⟩
  have e:(Value.int .u8 0).cells.size=1:=rfl
  show (#[]++Builtin.zeroCells (Value.int .u8 0).cells (0+n - 0)++Builtin.zeroCells (Value.int .u8 0).cells (grownCap w (0+n) 0 5 - (0+n))).size=grownCap w (0+n) 0 5*1
  rw [Array.size_append,Array.size_append,size_zeroCells,size_zeroCells,e]
  simp only [List.size_toArray,List.length_nil]
  omega
def InRowQ (w:World) (a:Option Addr) (L:List (List Int)):Prop:=∀ (i:Nat) l,L[i]? = some l -> ∃ ad b n c,a=some ad /\ w.cell? (ad.add i)=some (.slice b n c) /\ l.length=n /\ (∀ bd,b=some bd -> ∀ (j:Nat) x,l[j]? = some x->w.cell? (bd.add j)=some (.int .u8 x)) /\ (b=none->l=[])
theorem take_flat {L:List (List Int)} {k:Nat} {l:List Int} (h:L[k]? = some l):(L.take (k+1)).flatten=(L.take k).flatten++l:=by
 rw [List.take_add_one,h,List.flatten_append]
 simp
theorem take_flat_le (L:List (List Int)) (k:Nat):(L.take k).flatten.length<=L.flatten.length:=by
 have:L.flatten=(L.take k).flatten++(L.drop k).flatten:=by rw [<-List.flatten_append,List.take_append_drop]
 rw [this,List.length_append];omega
theorem run_app_none {P:Program} {w:World} (base:Nat) (t ty e:TypeId) (i:TypeInfo) (size:Nat) (ht:P.underlying t=some (.slice e)) (hi:P.info? e=some i) (v:Value) (n c:Nat) (xs:List Value) (hown:w.ownsRow base e size v n xs) :
  (Builtin.append_ #[t,t] ty #[v,.slice none 0 c]).run P w=.ok v w:=by
 rcases hown.2 with ⟨rfl,rfl⟩ | ⟨g,cap,cur,rfl,_,_,hnc,_⟩
 ·simp [Builtin.append_,run_underlying ht,sizeOf,typeInfo,hi,Builtin.lenOf,Builtin.firstCells]
 ·simp [Builtin.append_,run_underlying ht,sizeOf,typeInfo,hi,Builtin.lenOf,Builtin.firstCells,hnc,storeCells]
theorem wpList_app_any {P:Program} {w:World} {ops:Array Oper} {rest:List Oper} {o:Oper} {a:Act} {Q:Exit->Act->World->Prop} (hgd:o.guard=none) (s x:Operand) (t:TypeId)
  (ho:o.op=.call { callee:=.builtin .append,args:=#[s,x],argTypes:=#[t,t] }) (base:Nat) (e:TypeId) (i:TypeInfo) (z:Value) (ht:P.underlying t=some (.slice e)) (hi:P.info? e=some i) (hz:i.zero=some z) (hsize:i.size=1) (hby:i.bytes=1) (hzs:z.cells.size=1)
  (v:Value) (n:Nat) (xs:List Value) (hs:a.eval s=v) (hown:w.ownsRow base e 1 v n xs) (b:Option Addr) (m c:Nat) (l:List Int) (hx:a.eval x=.slice b m c) (hl:l.length=m)
  (hin:∀ bd,b=some bd -> ∀ (j:Nat) y,l[j]? = some y->w.cell? (bd.add j)=some (.int .u8 y)) (hnil:b=none->l=[]) (hbytes:n+m<=1000000000) (hbase:base<=w.heap.size)
  (h:∀ v' w',w'.ownsRow base e 1 v' (n+m) (xs++l.map (Value.int .u8))->Below base w w'->wpList P ops Q rest (a.put o.dst v') w'):wpList P ops Q (o::rest) a w:=by
 cases b with
 | none=>
  have hl0:=hnil rfl
  subst hl0
  have hm:m=0:=hl.symm
  subst hm
  refine wpList_plain hgd fun K hK=>?_
  have hrun:=run_app_none (P:=P) (w:=w) base t o.type e i 1 ht hi v n c xs hown
  unfold Oper.wp
  simp [execOp,ho,resolve,invoke,builtin,hs,hx,hrun,Result.andThen]
  exact hK _ _ (h v w (by simpa using hown) (Below.refl _ _))
 | some ad=>
  refine wpList_append_own w hgd s x t ho base e i z 1 1 ht hi hz hsize hby hzs (by omega) v n xs hs hown ad m c (l.map (Value.int .u8)) hx (by rw [List.length_map,hl,Nat.mul_one]) (fun j u hj=>?_) (fun u hu=>?_) (by unfold maxLen;omega) (by omega) hbase fun v' w' h1 h2 _=>h v' w' h1 ((Below.refl _ w).grown h2 hbase fun k hk=>?_)
  ·rw [List.getElem?_map] at hj
   obtain ⟨y,hy,rfl⟩:=Option.map_eq_some_iff.1 hj
   exact hin ad rfl j y hy
  ·obtain ⟨y,_,rfl⟩:=List.mem_map.1 hu
   rfl
  ·rcases hown.2 with ⟨rfl,_⟩ | ⟨b0,cap,cur,rfl,hb0,_⟩
   ·simp [Value.ownBlock] at hk
   ·simp [Value.ownBlock] at hk
    omega
theorem InRowQ.below {w w':World} {a:Option Addr} {L:List (List Int)} (h:InRowQ w a L) (hb:Below w.heap.size w w'):InRowQ w' a L:=fun i l hl=>by
 obtain ⟨ad,b,n,c,h1,h2,h3,h4,h5⟩:=h i l hl
 have keep:∀ {p:Addr} {u:Value},w.cell? p=some u->w'.cell? p=some u:=fun {p u} hp=>by rw [hb.cell (block_lt_of_cell hp)];exact hp
 exact ⟨ad,b,n,c,h1,keep h2,h3,fun bd hbd j x hx=>keep (h4 bd hbd j x hx),h5⟩
set_option maxHeartbeats 8000000 in
set_option maxRecDepth 1000000 in
theorem cat_walk (a:Option Addr) (m c:Nat) (L:List (List Int)) (w:World) (hm:L.length=m) (hm2:m<=100000000) (hb:L.flatten.length<=100000000) (hc:Aside (InRowQ w a L)) :
  Calls Tryd.prog 31 #[.slice a m c] w fun e w'=>∃ v,e=.returned v /\ w'.ownsRow w.heap.size 5 1 v L.flatten.length (L.flatten.map (Value.int .u8)) /\ Below w.heap.size w w':=by
 obtain ⟨i0,hi,hz0,hz1,hz2⟩:=info_parts infoU
 go_enter Tryd.func31,Tryd.ntmps31
 go_wp2
 go_loopw [3,11] (fun s i wr=>wr=w /\ ∃ k:Nat,k<=m /\ i=.int .i64 k /\ s=.int .i64 ((L.take k).flatten.length:Nat)) (fun _ i _=>m - (RowKit.intOf i).toNat)
 case atStart=>exact ⟨rfl,0,Nat.zero_le _,rfl,rfl⟩
 case round=>
  obtain ⟨hwr,k,hk,rfl,rfl⟩:=hrel
  have hwr:=hwr.symm
  subst hwr
  have hle:=take_flat_le L k
  obtain ⟨s,hs⟩:∃ s,(L.take k).flatten.length=s:=⟨_,rfl⟩
  rw [hs] at hle ⊢
  by_cases hlt:k < m
  ·obtain ⟨l,hl⟩:∃ l,L[k]? = some l:=⟨L[k]'(by omega),List.getElem?_eq_getElem (by omega)⟩
   obtain ⟨ad,b,n,c',ha,hcell,hn,_⟩:=hc.out k l hl
   have hs2:(L.take (k+1)).flatten.length=s+n:=by rw [take_flat hl,List.length_append,hs,hn]
   have hle2:=take_flat_le L (k+1)
   rw [hs2] at hle2
   subst ha
   go_wp2
   go_roundw
   case rel=>exact ⟨trivial,k+1,by omega,by simp,by rw [hs2];simp⟩
   case measure=>simp [RowKit.intOf];omega
  ·have hkm:k=m:=by omega
   subst hkm
   have hall:L.take k=L:=List.take_of_length_le (by omega)
   rw [hall] at hs
   go_wp2_with (go_at_call 38;(with_reducible refine (grow_nil s (by omega) _).mono ?_);rintro e w1 ⟨v,rfl,hown,hbel⟩)
   go_loopw [6,27] (fun v i wr=>∃ j:Nat,j<=k /\ i=.int .i64 j /\ wr.ownsRow w.heap.size 5 1 v (L.take j).flatten.length ((L.take j).flatten.map (Value.int .u8)) /\ Below w.heap.size w wr) (fun _ i _=>k - (RowKit.intOf i).toNat)
   case atStart=>exact ⟨0,Nat.zero_le _,rfl,by simpa using hown,hbel⟩
   case round=>
    obtain ⟨j,hj,rfl,hown2,hbel2⟩:=hrel
    by_cases hlt2:j < k
    ·obtain ⟨l,hl⟩:∃ l,L[j]? = some l:=⟨L[j]'(by omega),List.getElem?_eq_getElem (by omega)⟩
     obtain ⟨ad,b,n,c',ha,hcell,hn,hin,hnil⟩:=hc.out j l hl
     subst ha
     have hs2:(L.take (j+1)).flatten=(L.take j).flatten++l:=take_flat hl
     have hle2:=take_flat_le L (j+1)
     rw [hs2,List.length_append,hn] at hle2
     have keep:∀ {p:Addr} {u:Value},w.cell? p=some u->wr.cell? p=some u:=fun {p u} hp=>by rw [hbel2.cell (block_lt_of_cell hp)];exact hp
     have hcell2:=keep hcell
     have B:Aside (Below w.heap.size w wr /\ wr.ownsRow w.heap.size 5 1 u6 (L.take j).flatten.length ((L.take j).flatten.map (Value.int .u8)) /\ (∀ bd,b=some bd -> ∀ (i:Nat) y,l[i]? = some y->wr.cell? (bd.add i)=some (.int .u8 y)) /\ (b=none->l=[]) /\ l.length=n /\ (L.take (j+1)).flatten=(L.take j).flatten++l /\ (L.take j).flatten.length+n<=1000000000):=⟨hbel2,hown2,fun bd hbd i y hy=>keep (hin bd hbd i y hy),hnil,hn,hs2,by omega⟩
     clear hbel2 hown2 hin hnil hs2 hle2 keep hcell hown hbel hs hall
     go_wp2_with (at_builtin;refine wpList_app_any rfl _ _ 26 rfl w.heap.size 5 i0 (.int .u8 0) Tryd.underlying26 hi hz0 hz1 hz2 rfl _ _ _ rfl B.out.2.1 b n c' l rfl B.out.2.2.2.2.1 B.out.2.2.1 B.out.2.2.2.1 B.out.2.2.2.2.2.2 B.out.1.size ?_;intro v2 w2 hown3 hbel3)
     go_roundw
     case rel=>
      refine ⟨j+1,by omega,by simp,?_,B.out.1.trans hbel3⟩
      rw [B.out.2.2.2.2.2.1,List.length_append,List.map_append,B.out.2.2.2.2.1]
      exact hown3
     case measure=>simp [RowKit.intOf];omega
    ·have hjk:j=k:=by omega
     subst hjk
     rw [hall] at hown2
     go_wp2
     go_ret
     rw [hs] at hown2 ⊢
     exact ⟨_,rfl,hown2,hbel2⟩
theorem inRow_of {w:World} {C:Com} {L:List (List Int)} {cs:List Value} (h:RepD w C (.sl (.sl (.int .u8))) L cs):∃ a m c,cs=[.slice a m c] /\ L.length=m /\ InRowQ w a L /\ ∀ l∈L,∀ x∈l,(Lit.int .u8 x).wf=true:=by
 obtain ⟨a,n,c,e0,e1,e2,e3,e4⟩:=h
 have key:∀ (i:Nat) (l:List Int),L[i]? = some l->(∃ ad b n c,a=some ad /\ w.cell? (ad.add i)=some (.slice b n c) /\ l.length=n /\ (∀ bd,b=some bd -> ∀ (j:Nat) x,l[j]? = some x->w.cell? (bd.add j)=some (.int .u8 x)) /\ (b=none->l=[])) /\ ∀ x∈l,(Lit.int .u8 x).wf=true:=fun i l hl=>by
  obtain ⟨ad,us,h1,h2,h3,h4⟩:=e4 i l hl
  obtain ⟨b,n',c',f0,f1,f2,f3,f4,f5,f6⟩:=ints_of h4
  have:=(h3 0 (.slice b n' c') (by rw [f0];rfl)).1
  rw [show (Ty.sl (Ty.int .u8)).size=1 from rfl,Nat.mul_one,Nat.add_zero] at this
  exact ⟨⟨ad,b,n',c',h1,this,f1,f5,f6⟩,f4⟩
 refine ⟨a,n,c,e0,e1,fun i l hl=>(key i l hl).1,fun l hl x hx=>?_⟩
 obtain ⟨i,hi⟩:=List.mem_iff_getElem?.1 hl
 exact (key i l hi).2 x hx
theorem F_slices_Concat_byte_byte_sound {T:Tab}:SoundFn Tryd.prog T 31 F_slices_Concat_byte_byte_sig ⟨F_slices_Concat_byte_byte⟩:=by
 refine sound_of rfl fun F g O xs ls y tmf w args hT hw hlim hls happ hsz hr=>?_
 obtain ⟨(L:List (List Int)),xs',rfl,h2⟩:=appF_inv_c (ts:=[]) happ
 obtain ⟨rfl,h3⟩:=appF_inv_n h2
 have hls':some [Leaf.d (.sl (.sl (.int .u8))) L]=some ls:=hls
 injection hls' with hls'
 subst hls'
 obtain ⟨a,m,c,e0,e1,e2,e3⟩:=inRow_of (rel_leaf.1 (hr 0))
 have e0:args.getD 0 undef=.slice a m c:=by injection e0
 rw [args_1 hsz,e0]
 have h3:cond (Nat.ble L.flatten.length 100000000&&Nat.ble L.length 100000000) (some L.flatten) none=some y:=h3
 cases hb:(Nat.ble L.flatten.length 100000000&&Nat.ble L.length 100000000) with
 | false=>rw [hb] at h3;cases h3
 | true=>
  rw [hb] at h3
  have hy:L.flatten=y:=by injection h3
  rw [Bool.and_eq_true] at hb
  have b1:=Nat.le_of_ble_eq_true hb.1
  have b2:=Nat.le_of_ble_eq_true hb.2
  subst hy
  refine (cat_walk a m c L w e1 (by omega) b1 e2).mono ?_
  rintro e w' ⟨v,rfl,h1,h2⟩
  exact own_row (l:=L.flatten) hw hlim h2 h1 (fun x hx=>by obtain ⟨l,hl,hx⟩:=List.mem_flatten.1 hx;exact e3 l hl x hx) rfl rfl
end Go.Proofs.YtifbhefbhlbofaaDoor
namespace Go.Proofs.YtifbhefbhlbofaaDoor
open Pv
theorem F_frame_New_sound {T:Tab}:SoundFn Tryd.prog T 21 F_frame_New_sig ⟨F_frame_New⟩:=by
 have h:=fn_sound (T:=T) (E:=F_frame_New_env) (by unfold Env.ok;exact fun p h=>by cases h) (A:=F_frame_New_ann) (f:=21) (fn:=Tryd.f21) (s:=F_frame_New_sig) Tryd.func21
 rw [F_frame_New_text] at h
 exact h
theorem F_sets_First_sound {T:Tab}:SoundFn Tryd.prog T 22 F_sets_First_sig ⟨F_sets_First⟩:=by
 have h:=fn_sound (T:=T) (E:=F_sets_First_env) (by unfold Env.ok;exact fun p h=>by cases h) (A:=F_sets_First_ann) (f:=22) (fn:=Tryd.f22) (s:=F_sets_First_sig) Tryd.func22
 rw [F_sets_First_text] at h
 exact h
theorem F_stat_Size_sound {T:Tab}:SoundFn Tryd.prog T 66 F_stat_Size_sig ⟨F_stat_Size⟩:=by
 have h:=fn_sound (T:=T) (E:=F_stat_Size_env) (by unfold Env.ok;exact fun p h=>by cases h) (A:=F_stat_Size_ann) (f:=66) (fn:=Tryd.f66) (s:=F_stat_Size_sig) Tryd.func66
 rw [F_stat_Size_text] at h
 exact h
theorem F_dyn_Table_shrinks_sound {T:Tab}:SoundFn Tryd.prog T 57 F_dyn_Table_shrinks_sig ⟨F_dyn_Table_shrinks⟩:=by
 have h:=fn_sound (T:=T) (E:=F_dyn_Table_shrinks_env) (by unfold Env.ok;exact List.forall_mem_cons.2 ⟨F_stat_Size_sound,fun p h=>by cases h⟩) (A:=F_dyn_Table_shrinks_ann) (f:=57) (fn:=Tryd.f57) (s:=F_dyn_Table_shrinks_sig) Tryd.func57
 rw [F_dyn_Table_shrinks_text] at h
 exact h
theorem F_dyn_Table_Limit_sound {T:Tab}:SoundFn Tryd.prog T 37 F_dyn_Table_Limit_sig ⟨F_dyn_Table_Limit⟩:=by
 have h:=fn_sound (T:=T) (E:=F_dyn_Table_Limit_env) (by unfold Env.ok;exact List.forall_mem_cons.2 ⟨F_dyn_Table_shrinks_sound,List.forall_mem_cons.2 ⟨F_slices_Clone_stat_Field_stat_Field_sound,fun p h=>by cases h⟩⟩) (A:=F_dyn_Table_Limit_ann) (f:=37) (fn:=Tryd.f37) (s:=F_dyn_Table_Limit_sig) Tryd.func37
 rw [F_dyn_Table_Limit_text] at h
 exact h
theorem F_dyn_New_sound {T:Tab}:SoundFn Tryd.prog T 30 F_dyn_New_sig ⟨F_dyn_New⟩:=by
 have h:=fn_sound (T:=T) (E:=F_dyn_New_env) (by unfold Env.ok;exact List.forall_mem_cons.2 ⟨F_dyn_Table_Limit_sound,fun p h=>by cases h⟩) (A:=F_dyn_New_ann) (f:=30) (fn:=Tryd.f30) (s:=F_dyn_New_sig) Tryd.func30
 rw [F_dyn_New_text] at h
 exact h
theorem F_unpack_New_sound {T:Tab}:SoundFn Tryd.prog T 23 F_unpack_New_sig ⟨F_unpack_New⟩:=by
 have h:=fn_sound (T:=T) (E:=F_unpack_New_env) (by unfold Env.ok;exact List.forall_mem_cons.2 ⟨F_dyn_New_sound,fun p h=>by cases h⟩) (A:=F_unpack_New_ann) (f:=23) (fn:=Tryd.f23) (s:=F_unpack_New_sig) Tryd.func23
 rw [F_unpack_New_text] at h
 exact h
theorem F_watch_New_sound {T:Tab}:SoundFn Tryd.prog T 8 F_watch_New_sig ⟨F_watch_New⟩:=by
 have h:=fn_sound (T:=T) (E:=F_watch_New_env) (by unfold Env.ok;exact List.forall_mem_cons.2 ⟨F_frame_New_sound,List.forall_mem_cons.2 ⟨F_sets_First_sound,List.forall_mem_cons.2 ⟨F_unpack_New_sound,fun p h=>by cases h⟩⟩⟩) (A:=F_watch_New_ann) (f:=8) (fn:=Tryd.f8) (s:=F_watch_New_sig) Tryd.func8
 rw [F_watch_New_text] at h
 exact h
theorem F_wlvref10_num_sound {T:Tab}:SoundFn Tryd.prog T 27 F_wlvref10_num_sig ⟨F_wlvref10_num⟩:=by
 have h:=fn_sound (T:=T) (E:=F_wlvref10_num_env) (by unfold Env.ok;exact fun p h=>by cases h) (A:=F_wlvref10_num_ann) (f:=27) (fn:=Tryd.f27) (s:=F_wlvref10_num_sig) Tryd.func27
 rw [F_wlvref10_num_text] at h
 exact h
theorem F_wlvref10_Settings_sound {T:Tab}:SoundFn Tryd.prog T 11 F_wlvref10_Settings_sig ⟨F_wlvref10_Settings⟩:=by
 have h:=fn_sound (T:=T) (E:=F_wlvref10_Settings_env) (by unfold Env.ok;exact List.forall_mem_cons.2 ⟨F_wlvref10_num_sound,fun p h=>by cases h⟩) (A:=F_wlvref10_Settings_ann) (f:=11) (fn:=Tryd.f11) (s:=F_wlvref10_Settings_sig) Tryd.func11
 rw [F_wlvref10_Settings_text] at h
 exact h
theorem F_frame_Parser_Feed_sound {T:Tab}:SoundFn Tryd.prog T 24 F_frame_Parser_Feed_sig ⟨F_frame_Parser_Feed⟩:=by
 have h:=fn_sound (T:=T) (E:=F_frame_Parser_Feed_env) (by unfold Env.ok;exact List.forall_mem_cons.2 ⟨F_slices_Concat_byte_byte_sound,fun p h=>by cases h⟩) (A:=F_frame_Parser_Feed_ann) (f:=24) (fn:=Tryd.f24) (s:=F_frame_Parser_Feed_sig) Tryd.func24
 rw [F_frame_Parser_Feed_text] at h
 exact h
theorem F_frame_Parser_Next_sound {T:Tab}:SoundFn Tryd.prog T 25 F_frame_Parser_Next_sig ⟨F_frame_Parser_Next⟩:=by
 have h:=fn_sound (T:=T) (E:=F_frame_Parser_Next_env) (by unfold Env.ok;exact List.forall_mem_cons.2 ⟨F_bytes_Clone_sound,fun p h=>by cases h⟩) (A:=F_frame_Parser_Next_ann) (f:=25) (fn:=Tryd.f25) (s:=F_frame_Parser_Next_sig) Tryd.func25
 rw [F_frame_Parser_Next_text] at h
 exact h
theorem F_part_conn_sound {T:Tab}:SoundFn Tryd.prog T 41 F_part_conn_sig ⟨F_part_conn⟩:=by
 have h:=fn_sound (T:=T) (E:=F_part_conn_env) (by unfold Env.ok;exact fun p h=>by cases h) (A:=F_part_conn_ann) (f:=41) (fn:=Tryd.f41) (s:=F_part_conn_sig) Tryd.func41
 rw [F_part_conn_text] at h
 exact h
theorem F_part_bodied_sound {T:Tab}:SoundFn Tryd.prog T 39 F_part_bodied_sig ⟨F_part_bodied⟩:=by
 have h:=fn_sound (T:=T) (E:=F_part_bodied_env) (by unfold Env.ok;exact List.forall_mem_cons.2 ⟨F_bytes_Clone_sound,List.forall_mem_cons.2 ⟨F_part_conn_sound,fun p h=>by cases h⟩⟩) (A:=F_part_bodied_ann) (f:=39) (fn:=Tryd.f39) (s:=F_part_bodied_sig) Tryd.func39
 rw [F_part_bodied_text] at h
 exact h
theorem F_part_number_sound {T:Tab}:SoundFn Tryd.prog T 45 F_part_number_sig ⟨F_part_number⟩:=by
 have h:=fn_sound (T:=T) (E:=F_part_number_env) (by unfold Env.ok;exact fun p h=>by cases h) (A:=F_part_number_ann) (f:=45) (fn:=Tryd.f45) (s:=F_part_number_sig) Tryd.func45
 rw [F_part_number_text] at h
 exact h
theorem F_part_settings_sound {T:Tab}:SoundFn Tryd.prog T 40 F_part_settings_sig ⟨F_part_settings⟩:=by
 have h:=fn_sound (T:=T) (E:=F_part_settings_env) (by unfold Env.ok;exact List.forall_mem_cons.2 ⟨F_part_conn_sound,List.forall_mem_cons.2 ⟨F_part_number_sound,fun p h=>by cases h⟩⟩) (A:=F_part_settings_ann) (f:=40) (fn:=Tryd.f40) (s:=F_part_settings_sig) Tryd.func40
 rw [F_part_settings_text] at h
 exact h
theorem F_part_whole_sound {T:Tab}:SoundFn Tryd.prog T 42 F_part_whole_sig ⟨F_part_whole⟩:=by
 have h:=fn_sound (T:=T) (E:=F_part_whole_env) (by unfold Env.ok;exact List.forall_mem_cons.2 ⟨F_bytes_Clone_sound,List.forall_mem_cons.2 ⟨F_part_conn_sound,List.forall_mem_cons.2 ⟨F_part_number_sound,fun p h=>by cases h⟩⟩⟩) (A:=F_part_whole_ann) (f:=42) (fn:=Tryd.f42) (s:=F_part_whole_sig) Tryd.func42
 rw [F_part_whole_text] at h
 exact h
theorem F_part_stream_sound {T:Tab}:SoundFn Tryd.prog T 44 F_part_stream_sig ⟨F_part_stream⟩:=by
 have h:=fn_sound (T:=T) (E:=F_part_stream_env) (by unfold Env.ok;exact fun p h=>by cases h) (A:=F_part_stream_ann) (f:=44) (fn:=Tryd.f44) (s:=F_part_stream_sig) Tryd.func44
 rw [F_part_stream_text] at h
 exact h
theorem F_part_update_sound {T:Tab}:SoundFn Tryd.prog T 43 F_part_update_sig ⟨F_part_update⟩:=by
 have h:=fn_sound (T:=T) (E:=F_part_update_env) (by unfold Env.ok;exact List.forall_mem_cons.2 ⟨F_part_conn_sound,List.forall_mem_cons.2 ⟨F_part_stream_sound,List.forall_mem_cons.2 ⟨F_part_number_sound,fun p h=>by cases h⟩⟩⟩) (A:=F_part_update_ann) (f:=43) (fn:=Tryd.f43) (s:=F_part_update_sig) Tryd.func43
 rw [F_part_update_text] at h
 exact h
theorem F_part_Read_sound {T:Tab}:SoundFn Tryd.prog T 32 F_part_Read_sig ⟨F_part_Read⟩:=by
 have h:=fn_sound (T:=T) (E:=F_part_Read_env) (by unfold Env.ok;exact List.forall_mem_cons.2 ⟨F_bytes_Clone_sound,List.forall_mem_cons.2 ⟨F_part_bodied_sound,List.forall_mem_cons.2 ⟨F_part_settings_sound,List.forall_mem_cons.2 ⟨F_part_conn_sound,List.forall_mem_cons.2 ⟨F_part_whole_sound,List.forall_mem_cons.2 ⟨F_part_update_sound,List.forall_mem_cons.2 ⟨F_part_stream_sound,List.forall_mem_cons.2 ⟨F_part_number_sound,fun p h=>by cases h⟩⟩⟩⟩⟩⟩⟩⟩) (A:=F_part_Read_ann) (f:=32) (fn:=Tryd.f32) (s:=F_part_Read_sig) Tryd.func32
 rw [F_part_Read_text] at h
 exact h
theorem F_sets_wrong_sound {T:Tab}:SoundFn Tryd.prog T 62 F_sets_wrong_sig ⟨F_sets_wrong⟩:=by
 have h:=fn_sound (T:=T) (E:=F_sets_wrong_env) (by unfold Env.ok;exact fun p h=>by cases h) (A:=F_sets_wrong_ann) (f:=62) (fn:=Tryd.f62) (s:=F_sets_wrong_sig) Tryd.func62
 rw [F_sets_wrong_text] at h
 exact h
theorem F_sets_Apply_sound {T:Tab}:SoundFn Tryd.prog T 50 F_sets_Apply_sig ⟨F_sets_Apply⟩:=by
 have h:=fn_sound (T:=T) (E:=F_sets_Apply_env) (by unfold Env.ok;exact List.forall_mem_cons.2 ⟨F_sets_wrong_sound,fun p h=>by cases h⟩) (A:=F_sets_Apply_ann) (f:=50) (fn:=Tryd.f50) (s:=F_sets_Apply_sig) Tryd.func50
 rw [F_sets_Apply_text] at h
 exact h
theorem F_watch_Watch_applies_sound {T:Tab}:SoundFn Tryd.prog T 34 F_watch_Watch_applies_sig ⟨F_watch_Watch_applies⟩:=by
 have h:=fn_soundT (T:=T) (E:=F_watch_Watch_applies_env) (by unfold Env.ok;exact List.forall_mem_cons.2 ⟨F_sets_Apply_sound,fun p h=>by cases h⟩) (r:=7) (h:=apTail) (A:=F_watch_Watch_applies_ann) (f:=34) (fn:=Tryd.f34) (s:=F_watch_Watch_applies_sig) Tryd.func34 F_watch_Watch_applies_hand
 rw [F_watch_Watch_applies_text] at h
 exact h
theorem F_watch_Watch_live_sound {T:Tab}:SoundFn Tryd.prog T 52 F_watch_Watch_live_sig ⟨F_watch_Watch_live⟩:=by
 have h:=fn_sound (T:=T) (E:=F_watch_Watch_live_env) (by unfold Env.ok;exact fun p h=>by cases h) (A:=F_watch_Watch_live_ann) (f:=52) (fn:=Tryd.f52) (s:=F_watch_Watch_live_sig) Tryd.func52
 rw [F_watch_Watch_live_text] at h
 exact h
theorem F_pint_ones_sound {T:Tab}:SoundFn Tryd.prog T 78 F_pint_ones_sig ⟨F_pint_ones⟩:=by
 have h:=fn_sound (T:=T) (E:=F_pint_ones_env) (by unfold Env.ok;exact fun p h=>by cases h) (A:=F_pint_ones_ann) (f:=78) (fn:=Tryd.f78) (s:=F_pint_ones_sig) Tryd.func78
 rw [F_pint_ones_text] at h
 exact h
theorem F_pint_Get_sound {T:Tab}:SoundFn Tryd.prog T 74 F_pint_Get_sig ⟨F_pint_Get⟩:=by
 have h:=fn_sound (T:=T) (E:=F_pint_Get_env) (by unfold Env.ok;exact List.forall_mem_cons.2 ⟨F_pint_ones_sound,fun p h=>by cases h⟩) (A:=F_pint_Get_ann) (f:=74) (fn:=Tryd.f74) (s:=F_pint_Get_sig) Tryd.func74
 rw [F_pint_Get_text] at h
 exact h
theorem F_unpack_block_number_sound {T:Tab}:SoundFn Tryd.prog T 69 F_unpack_block_number_sig ⟨F_unpack_block_number⟩:=by
 have h:=fn_sound (T:=T) (E:=F_unpack_block_number_env) (by unfold Env.ok;exact List.forall_mem_cons.2 ⟨F_pint_Get_sound,fun p h=>by cases h⟩) (A:=F_unpack_block_number_ann) (f:=69) (fn:=Tryd.f69) (s:=F_unpack_block_number_sig) Tryd.func69
 rw [F_unpack_block_number_text] at h
 exact h
theorem F_internal_stringslite_Cut_sound {T:Tab}:SoundFn Tryd.prog T 85 F_internal_stringslite_Cut_sig ⟨F_internal_stringslite_Cut⟩:=by
 have h:=fn_sound (T:=T) (E:=F_internal_stringslite_Cut_env) (by unfold Env.ok;exact List.forall_mem_cons.2 ⟨F_internal_stringslite_Index_sound,fun p h=>by cases h⟩) (A:=F_internal_stringslite_Cut_ann) (f:=85) (fn:=Tryd.f85) (s:=F_internal_stringslite_Cut_sig) Tryd.func85
 rw [F_internal_stringslite_Cut_text] at h
 exact h
theorem F_strings_Cut_sound {T:Tab}:SoundFn Tryd.prog T 82 F_strings_Cut_sig ⟨F_strings_Cut⟩:=by
 have h:=fn_sound (T:=T) (E:=F_strings_Cut_env) (by unfold Env.ok;exact List.forall_mem_cons.2 ⟨F_internal_stringslite_Cut_sound,fun p h=>by cases h⟩) (A:=F_strings_Cut_ann) (f:=82) (fn:=Tryd.f82) (s:=F_strings_Cut_sig) Tryd.func82
 rw [F_strings_Cut_text] at h
 exact h
theorem F_stat_split_sound {T:Tab}:SoundFn Tryd.prog T 79 F_stat_split_sig ⟨F_stat_split⟩:=by
 have h:=fn_sound (T:=T) (E:=F_stat_split_env) (by unfold Env.ok;exact List.forall_mem_cons.2 ⟨F_strings_Cut_sound,fun p h=>by cases h⟩) (A:=F_stat_split_ann) (f:=79) (fn:=Tryd.f79) (s:=F_stat_split_sig) Tryd.func79
 rw [F_stat_split_text] at h
 exact h
theorem F_stat_Get_sound {T:Tab} (h_maxlen:has_maxlen T):SoundFn Tryd.prog T 75 F_stat_Get_sig ⟨F_stat_Get⟩:=by
 have h:=fn_sound (T:=T) (E:=F_stat_Get_env) (by unfold Env.ok;exact List.forall_mem_cons.2 ⟨F_stat_split_sound,List.forall_mem_cons.2 ⟨F_strings_Split_sound h_maxlen,fun p h=>by cases h⟩⟩) (A:=F_stat_Get_ann) (f:=75) (fn:=Tryd.f75) (s:=F_stat_Get_sig) Tryd.func75
 rw [F_stat_Get_text] at h
 exact h
theorem F_dyn_Table_Get_sound {T:Tab}:SoundFn Tryd.prog T 76 F_dyn_Table_Get_sig ⟨F_dyn_Table_Get⟩:=by
 have h:=fn_sound (T:=T) (E:=F_dyn_Table_Get_env) (by unfold Env.ok;exact fun p h=>by cases h) (A:=F_dyn_Table_Get_ann) (f:=76) (fn:=Tryd.f76) (s:=F_dyn_Table_Get_sig) Tryd.func76
 rw [F_dyn_Table_Get_text] at h
 exact h
theorem F_unpack_block_at_sound {T:Tab} (h_maxlen:has_maxlen T):SoundFn Tryd.prog T 70 F_unpack_block_at_sig ⟨F_unpack_block_at⟩:=by
 have h:=fn_sound (T:=T) (E:=F_unpack_block_at_env) (by unfold Env.ok;exact List.forall_mem_cons.2 ⟨F_stat_Get_sound h_maxlen,List.forall_mem_cons.2 ⟨F_dyn_Table_Get_sound,fun p h=>by cases h⟩⟩) (A:=F_unpack_block_at_ann) (f:=70) (fn:=Tryd.f70) (s:=F_unpack_block_at_sig) Tryd.func70
 rw [F_unpack_block_at_text] at h
 exact h
theorem F_huff_bitsOf_sound {T:Tab}:SoundFn Tryd.prog T 84 F_huff_bitsOf_sig ⟨F_huff_bitsOf⟩:=by
 have h:=fn_sound (T:=T) (E:=F_huff_bitsOf_env) (by unfold Env.ok;exact fun p h=>by cases h) (A:=F_huff_bitsOf_ann) (f:=84) (fn:=Tryd.f84) (s:=F_huff_bitsOf_sig) Tryd.func84
 rw [F_huff_bitsOf_text] at h
 exact h
theorem F_huff_opened_sound {T:Tab}:SoundFn Tryd.prog T 81 F_huff_opened_sig ⟨F_huff_opened⟩:=by
 have h:=fn_sound (T:=T) (E:=F_huff_opened_env) (by unfold Env.ok;exact List.forall_mem_cons.2 ⟨F_huff_bitsOf_sound,fun p h=>by cases h⟩) (A:=F_huff_opened_ann) (f:=81) (fn:=Tryd.f81) (s:=F_huff_opened_sig) Tryd.func81
 rw [F_huff_opened_text] at h
 exact h
theorem F_huff_Decode_sound {T:Tab}:SoundFn Tryd.prog T 77 F_huff_Decode_sig ⟨F_huff_Decode⟩:=by
 have h:=fn_sound (T:=T) (E:=F_huff_Decode_env) (by unfold Env.ok;exact List.forall_mem_cons.2 ⟨F_huff_opened_sound,fun p h=>by cases h⟩) (A:=F_huff_Decode_ann) (f:=77) (fn:=Tryd.f77) (s:=F_huff_Decode_sig) Tryd.func77
 rw [F_huff_Decode_text] at h
 exact h
theorem F_unpack_block_text_sound {T:Tab}:SoundFn Tryd.prog T 73 F_unpack_block_text_sig ⟨F_unpack_block_text⟩:=by
 have h:=fn_sound (T:=T) (E:=F_unpack_block_text_env) (by unfold Env.ok;exact List.forall_mem_cons.2 ⟨F_unpack_block_number_sound,List.forall_mem_cons.2 ⟨F_huff_Decode_sound,fun p h=>by cases h⟩⟩) (A:=F_unpack_block_text_ann) (f:=73) (fn:=Tryd.f73) (s:=F_unpack_block_text_sig) Tryd.func73
 rw [F_unpack_block_text_text] at h
 exact h
theorem F_unpack_block_literal_sound {T:Tab} (h_maxlen:has_maxlen T):SoundFn Tryd.prog T 68 F_unpack_block_literal_sig ⟨F_unpack_block_literal⟩:=by
 have h:=fn_sound (T:=T) (E:=F_unpack_block_literal_env) (by unfold Env.ok;exact List.forall_mem_cons.2 ⟨F_unpack_block_number_sound,List.forall_mem_cons.2 ⟨F_unpack_block_at_sound h_maxlen,List.forall_mem_cons.2 ⟨F_unpack_block_text_sound,fun p h=>by cases h⟩⟩⟩) (A:=F_unpack_block_literal_ann) (f:=68) (fn:=Tryd.f68) (s:=F_unpack_block_literal_sig) Tryd.func68
 rw [F_unpack_block_literal_text] at h
 exact h
theorem F_dyn_Table_Add_sound {T:Tab}:SoundFn Tryd.prog T 71 F_dyn_Table_Add_sig ⟨F_dyn_Table_Add⟩:=by
 have h:=fn_sound (T:=T) (E:=F_dyn_Table_Add_env) (by unfold Env.ok;exact List.forall_mem_cons.2 ⟨F_dyn_Table_shrinks_sound,List.forall_mem_cons.2 ⟨F_stat_Size_sound,fun p h=>by cases h⟩⟩) (A:=F_dyn_Table_Add_ann) (f:=71) (fn:=Tryd.f71) (s:=F_dyn_Table_Add_sig) Tryd.func71
 rw [F_dyn_Table_Add_text] at h
 exact h
theorem F_unpack_block_keep_sound {T:Tab}:SoundFn Tryd.prog T 72 F_unpack_block_keep_sig ⟨F_unpack_block_keep⟩:=by
 have h:=fn_sound (T:=T) (E:=F_unpack_block_keep_env) (by unfold Env.ok;exact List.forall_mem_cons.2 ⟨F_stat_Size_sound,fun p h=>by cases h⟩) (A:=F_unpack_block_keep_ann) (f:=72) (fn:=Tryd.f72) (s:=F_unpack_block_keep_sig) Tryd.func72
 rw [F_unpack_block_keep_text] at h
 exact h
theorem F_unpack_block_read_sound {T:Tab} (h_maxlen:has_maxlen T):SoundFn Tryd.prog T 64 F_unpack_block_read_sig ⟨F_unpack_block_read⟩:=by
 have h:=fn_sound (T:=T) (E:=F_unpack_block_read_env) (by unfold Env.ok;exact List.forall_mem_cons.2 ⟨F_dyn_Table_Limit_sound,List.forall_mem_cons.2 ⟨F_unpack_block_literal_sound h_maxlen,List.forall_mem_cons.2 ⟨F_unpack_block_number_sound,List.forall_mem_cons.2 ⟨F_unpack_block_at_sound h_maxlen,List.forall_mem_cons.2 ⟨F_dyn_Table_Add_sound,List.forall_mem_cons.2 ⟨F_unpack_block_keep_sound,fun p h=>by cases h⟩⟩⟩⟩⟩⟩) (A:=F_unpack_block_read_ann) (f:=64) (fn:=Tryd.f64) (s:=F_unpack_block_read_sig) Tryd.func64
 rw [F_unpack_block_read_text] at h
 exact h
theorem F_unpack_Dec_Decode_sound {T:Tab} (h_maxlen:has_maxlen T):SoundFn Tryd.prog T 53 F_unpack_Dec_Decode_sig ⟨F_unpack_Dec_Decode⟩:=by
 have h:=fn_sound (T:=T) (E:=F_unpack_Dec_Decode_env) (by unfold Env.ok;exact List.forall_mem_cons.2 ⟨F_slices_Clone_byte_byte_sound,List.forall_mem_cons.2 ⟨F_unpack_block_read_sound h_maxlen,fun p h=>by cases h⟩⟩) (A:=F_unpack_Dec_Decode_ann) (f:=53) (fn:=Tryd.f53) (s:=F_unpack_Dec_Decode_sig) Tryd.func53
 rw [F_unpack_Dec_Decode_text] at h
 exact h
theorem F_unpack_Dec_Table_sound {T:Tab}:SoundFn Tryd.prog T 54 F_unpack_Dec_Table_sig ⟨F_unpack_Dec_Table⟩:=by
 have h:=fn_sound (T:=T) (E:=F_unpack_Dec_Table_env) (by unfold Env.ok;exact fun p h=>by cases h) (A:=F_unpack_Dec_Table_ann) (f:=54) (fn:=Tryd.f54) (s:=F_unpack_Dec_Table_sig) Tryd.func54
 rw [F_unpack_Dec_Table_text] at h
 exact h
theorem F_dyn_Table_Most_sound {T:Tab}:SoundFn Tryd.prog T 55 F_dyn_Table_Most_sig ⟨F_dyn_Table_Most⟩:=by
 have h:=fn_sound (T:=T) (E:=F_dyn_Table_Most_env) (by unfold Env.ok;exact fun p h=>by cases h) (A:=F_dyn_Table_Most_ann) (f:=55) (fn:=Tryd.f55) (s:=F_dyn_Table_Most_sig) Tryd.func55
 rw [F_dyn_Table_Most_text] at h
 exact h
theorem F_watch_Watch_answers_sound {T:Tab} (h_maxlen:has_maxlen T):SoundFn Tryd.prog T 35 F_watch_Watch_answers_sig ⟨F_watch_Watch_answers⟩:=by
 have h:=fn_sound (T:=T) (E:=F_watch_Watch_answers_env) (by unfold Env.ok;exact List.forall_mem_cons.2 ⟨F_watch_Watch_live_sound,List.forall_mem_cons.2 ⟨F_unpack_Dec_Decode_sound h_maxlen,List.forall_mem_cons.2 ⟨F_unpack_Dec_Table_sound,List.forall_mem_cons.2 ⟨F_dyn_Table_Most_sound,fun p h=>by cases h⟩⟩⟩⟩) (A:=F_watch_Watch_answers_ann) (f:=35) (fn:=Tryd.f35) (s:=F_watch_Watch_answers_sig) Tryd.func35
 rw [F_watch_Watch_answers_text] at h
 exact h
theorem F_watch_Watch_sends_sound {T:Tab}:SoundFn Tryd.prog T 36 F_watch_Watch_sends_sig ⟨F_watch_Watch_sends⟩:=by
 have h:=fn_sound (T:=T) (E:=F_watch_Watch_sends_env) (by unfold Env.ok;exact List.forall_mem_cons.2 ⟨F_flow_Windows_sound,List.forall_mem_cons.2 ⟨F_flow_Conn_sound,List.forall_mem_cons.2 ⟨F_flow_Stream_sound,List.forall_mem_cons.2 ⟨F_watch_Watch_live_sound,List.forall_mem_cons.2 ⟨F_flow_Spend_sound,fun p h=>by cases h⟩⟩⟩⟩⟩) (A:=F_watch_Watch_sends_ann) (f:=36) (fn:=Tryd.f36) (s:=F_watch_Watch_sends_sig) Tryd.func36
 rw [F_watch_Watch_sends_text] at h
 exact h
theorem F_watch_Watch_right_sound {T:Tab} (h_maxlen:has_maxlen T):SoundFn Tryd.prog T 28 F_watch_Watch_right_sig ⟨F_watch_Watch_right⟩:=by
 have h:=fn_sound (T:=T) (E:=F_watch_Watch_right_env) (by unfold Env.ok;exact List.forall_mem_cons.2 ⟨F_part_Read_sound,List.forall_mem_cons.2 ⟨F_watch_Watch_applies_sound,List.forall_mem_cons.2 ⟨F_watch_Watch_answers_sound h_maxlen,List.forall_mem_cons.2 ⟨F_watch_Watch_sends_sound,fun p h=>by cases h⟩⟩⟩⟩) (A:=F_watch_Watch_right_ann) (f:=28) (fn:=Tryd.f28) (s:=F_watch_Watch_right_sig) Tryd.func28
 rw [F_watch_Watch_right_text] at h
 exact h
theorem F_watch_Watch_Out_sound {T:Tab} (h_maxlen:has_maxlen T):SoundFn Tryd.prog T 12 F_watch_Watch_Out_sig ⟨F_watch_Watch_Out⟩:=by
 have h:=fn_sound (T:=T) (E:=F_watch_Watch_Out_env) (by unfold Env.ok;exact List.forall_mem_cons.2 ⟨F_frame_Parser_Feed_sound,List.forall_mem_cons.2 ⟨F_frame_Parser_Next_sound,List.forall_mem_cons.2 ⟨F_watch_Watch_right_sound h_maxlen,fun p h=>by cases h⟩⟩⟩) (A:=F_watch_Watch_Out_ann) (f:=12) (fn:=Tryd.f12) (s:=F_watch_Watch_Out_sig) Tryd.func12
 rw [F_watch_Watch_Out_text] at h
 exact h
theorem F_watch_Watch_Frames_sound {T:Tab}:SoundFn Tryd.prog T 13 F_watch_Watch_Frames_sig ⟨F_watch_Watch_Frames⟩:=by
 have h:=fn_sound (T:=T) (E:=F_watch_Watch_Frames_env) (by unfold Env.ok;exact fun p h=>by cases h) (A:=F_watch_Watch_Frames_ann) (f:=13) (fn:=Tryd.f13) (s:=F_watch_Watch_Frames_sig) Tryd.func13
 rw [F_watch_Watch_Frames_text] at h
 exact h
theorem F_wlvref10_Put_sound {T:Tab}:SoundFn Tryd.prog T 20 F_wlvref10_Put_sig ⟨F_wlvref10_Put⟩:=by
 have h:=fn_sound (T:=T) (E:=F_wlvref10_Put_env) (by unfold Env.ok;exact List.forall_mem_cons.2 ⟨F_wlvref10_num_sound,fun p h=>by cases h⟩) (A:=F_wlvref10_Put_ann) (f:=20) (fn:=Tryd.f20) (s:=F_wlvref10_Put_sig) Tryd.func20
 rw [F_wlvref10_Put_text] at h
 exact h
theorem F_wlvlaw27_first_sound {T:Tab} (h_maxlen:has_maxlen T):SoundFn Tryd.prog T 7 F_wlvlaw27_first_sig ⟨F_wlvlaw27_first⟩:=by
 have h:=fn_sound (T:=T) (E:=F_wlvlaw27_first_env) (by unfold Env.ok;exact List.forall_mem_cons.2 ⟨F_watch_New_sound,List.forall_mem_cons.2 ⟨F_wlvref10_Settings_sound,List.forall_mem_cons.2 ⟨F_watch_Watch_Out_sound h_maxlen,List.forall_mem_cons.2 ⟨F_watch_Watch_Frames_sound,List.forall_mem_cons.2 ⟨F_wlvref10_Put_sound,fun p h=>by cases h⟩⟩⟩⟩⟩) (A:=F_wlvlaw27_first_ann) (f:=7) (fn:=Tryd.f7) (s:=F_wlvlaw27_first_sig) Tryd.func7
 rw [F_wlvlaw27_first_text] at h
 exact h
theorem F_watch_Watch_granted_sound {T:Tab}:SoundFn Tryd.prog T 33 F_watch_Watch_granted_sig ⟨F_watch_Watch_granted⟩:=by
 have h:=fn_sound (T:=T) (E:=F_watch_Watch_granted_env) (by unfold Env.ok;exact List.forall_mem_cons.2 ⟨F_flow_Grant_sound,List.forall_mem_cons.2 ⟨F_flow_Windows_sound,List.forall_mem_cons.2 ⟨F_flow_Conn_sound,List.forall_mem_cons.2 ⟨F_flow_Stream_sound,fun p h=>by cases h⟩⟩⟩⟩) (A:=F_watch_Watch_granted_ann) (f:=33) (fn:=Tryd.f33) (s:=F_watch_Watch_granted_sig) Tryd.func33
 rw [F_watch_Watch_granted_text] at h
 exact h
theorem F_watch_Watch_hears_sound {T:Tab}:SoundFn Tryd.prog T 26 F_watch_Watch_hears_sig ⟨F_watch_Watch_hears⟩:=by
 have h:=fn_sound (T:=T) (E:=F_watch_Watch_hears_env) (by unfold Env.ok;exact List.forall_mem_cons.2 ⟨F_part_Read_sound,List.forall_mem_cons.2 ⟨F_watch_Watch_granted_sound,fun p h=>by cases h⟩⟩) (A:=F_watch_Watch_hears_ann) (f:=26) (fn:=Tryd.f26) (s:=F_watch_Watch_hears_sig) Tryd.func26
 rw [F_watch_Watch_hears_text] at h
 exact h
theorem F_watch_Watch_In_sound {T:Tab}:SoundFn Tryd.prog T 9 F_watch_Watch_In_sig ⟨F_watch_Watch_In⟩:=by
 have h:=fn_sound (T:=T) (E:=F_watch_Watch_In_env) (by unfold Env.ok;exact List.forall_mem_cons.2 ⟨F_frame_Parser_Feed_sound,List.forall_mem_cons.2 ⟨F_frame_Parser_Next_sound,List.forall_mem_cons.2 ⟨F_watch_Watch_hears_sound,fun p h=>by cases h⟩⟩⟩) (A:=F_watch_Watch_In_ann) (f:=9) (fn:=Tryd.f9) (s:=F_watch_Watch_In_sig) Tryd.func9
 rw [F_watch_Watch_In_text] at h
 exact h
theorem F_wlvlaw27_Few_sound {T:Tab}:SoundFn Tryd.prog T 17 F_wlvlaw27_Few_sig ⟨F_wlvlaw27_Few⟩:=by
 have h:=fn_sound (T:=T) (E:=F_wlvlaw27_Few_env) (by unfold Env.ok;exact fun p h=>by cases h) (A:=F_wlvlaw27_Few_ann) (f:=17) (fn:=Tryd.f17) (s:=F_wlvlaw27_Few_sig) Tryd.func17
 rw [F_wlvlaw27_Few_text] at h
 exact h
theorem F_wlvref_Bytes_sound {T:Tab}:SoundFn Tryd.prog T 18 F_wlvref_Bytes_sig ⟨F_wlvref_Bytes⟩:=by
 have h:=fn_sound (T:=T) (E:=F_wlvref_Bytes_env) (by unfold Env.ok;exact fun p h=>by cases h) (A:=F_wlvref_Bytes_ann) (f:=18) (fn:=Tryd.f18) (s:=F_wlvref_Bytes_sig) Tryd.func18
 rw [F_wlvref_Bytes_text] at h
 exact h
theorem F_watch_Watch_Sent_sound {T:Tab}:SoundFn Tryd.prog T 19 F_watch_Watch_Sent_sig ⟨F_watch_Watch_Sent⟩:=by
 have h:=fn_sound (T:=T) (E:=F_watch_Watch_Sent_env) (by unfold Env.ok;exact List.forall_mem_cons.2 ⟨F_bytes_Clone_sound,fun p h=>by cases h⟩) (A:=F_watch_Watch_Sent_ann) (f:=19) (fn:=Tryd.f19) (s:=F_watch_Watch_Sent_sig) Tryd.func19
 rw [F_watch_Watch_Sent_text] at h
 exact h
theorem F_wlvlaw27_WatchPieces_sound {T:Tab} (h_maxlen:has_maxlen T):SoundFn Tryd.prog T 5 F_wlvlaw27_WatchPieces_sig ⟨F_wlvlaw27_WatchPieces⟩:=by
 have h:=fn_sound (T:=T) (E:=F_wlvlaw27_WatchPieces_env) (by unfold Env.ok;exact List.forall_mem_cons.2 ⟨F_wlvlaw27_first_sound h_maxlen,List.forall_mem_cons.2 ⟨F_watch_New_sound,List.forall_mem_cons.2 ⟨F_watch_Watch_In_sound,List.forall_mem_cons.2 ⟨F_watch_Watch_Out_sound h_maxlen,List.forall_mem_cons.2 ⟨F_watch_Watch_Frames_sound,List.forall_mem_cons.2 ⟨F_wlvlaw27_Few_sound,List.forall_mem_cons.2 ⟨F_wlvref_Bytes_sound,List.forall_mem_cons.2 ⟨F_watch_Watch_Sent_sound,fun p h=>by cases h⟩⟩⟩⟩⟩⟩⟩⟩) (A:=F_wlvlaw27_WatchPieces_ann) (f:=5) (fn:=Tryd.f5) (s:=F_wlvlaw27_WatchPieces_sig) Tryd.func5
 rw [F_wlvlaw27_WatchPieces_text] at h
 exact h
end Go.Proofs.YtifbhefbhlbofaaDoor
namespace Go.Proofs.YtifbhefbhlbofaaDoor
namespace Pv
set_option linter.unusedVariables false
section
variable {S R T : Type} {body : S -> Option (R ⊕ S)} {s s' : S} {r r' : R}
theorem iter_uniq:∀ {n m:Nat} {s:S},iterC body n s=some r->iterC body m s=some r'->r=r'
 | 0,_,_,h,_=>by cases h
 | _+1,0,_,_,h=>by cases h
 | n+1,m+1,s,h,k=>by
  unfold iterC at h k
  split at h
  ·cases h
  ·rename_i x hx
   rw [hx] at k
   injection h with h;injection k with k
   exact h.symm.trans k
  ·rename_i x hx
   rw [hx] at k
   exact iter_uniq h k
theorem loop_of_iter {n:Nat} (h:iterC body n s=some r):loopC body s=some r:=by
 unfold loopC
 have hex:∃ r n,iterC body n s=some r:=⟨r,n,h⟩
 rw [dif_pos hex]
 obtain ⟨m,hm⟩:=hex.choose_spec
 rw [iter_uniq hm h]
theorem iter_of_loop' (h:loopC body s=some r):∃ n,iterC body n s=some r:=by
 unfold loopC at h
 split at h
 ·rename_i hex
  injection h with h
  obtain ⟨n,hn⟩:=hex.choose_spec
  exact ⟨n,by rw [hn,h]⟩
 ·cases h
theorem loop_inl (h:body s=some (.inl r)):loopC body s=some r:=loop_of_iter (n:=1) (by unfold iterC;rw [h])
theorem loop_inr (h:body s=some (.inr s')) (k:loopC body s'=some r):loopC body s=some r:=by
 obtain ⟨n,hn⟩:=iter_of_loop' k
 exact loop_of_iter (n:=n+1) (by unfold iterC;rw [h];exact hn)
theorem join_inl {A:Option (R⊕S)} {B:S->Option R} (h:A=some (.inl r)):joinC A B=some r:=by rw [h];rfl
theorem join_inr {A:Option (R⊕S)} {B:S->Option R} (h:A=some (.inr s)):joinC A B=B s:=by rw [h];rfl
theorem getI_of {α:Type} {l:List α} {j:Int} (h0:0<=j) (h1:j < l.length):∃ x,getI l j=some x /\ l[j.toNat]? = some x:=by
 have hlt:j.toNat < l.length:=by omega
 exact ⟨l[j.toNat],by unfold getI;rw [decide_eq_true h0];simp [hlt],by simp [hlt]⟩
end
end Pv
end Go.Proofs.YtifbhefbhlbofaaDoor
namespace Go.Proofs.YtifbhefbhlbofaaDoor
namespace Vc
open Ieee
theorem log2_mul {m:Nat} (hm:m≠0) (k:Nat):(m*2 ^ k).log2=m.log2+k:=by
 have h:=(Nat.log2_eq_iff hm).1 rfl
 have hp:0 < 2 ^ k:=Nat.two_pow_pos k
 rw [Nat.log2_eq_iff (by have:=Nat.mul_pos (Nat.pos_of_ne_zero hm) hp;omega)]
 rw [Nat.pow_add,show m.log2+k+1=(m.log2+1)+k by omega,Nat.pow_add]
 exact ⟨Nat.mul_le_mul_right _ h.1,Nat.mul_lt_mul_of_pos_right h.2 hp⟩
theorem log2_lt {m:Nat} (h:m < 2 ^ 53):m.log2<=52:=by
 by_cases hm:m=0
 ·subst hm;decide
 ·have h1:=(Nat.log2_eq_iff hm).1 rfl
  rcases Nat.lt_or_ge 52 m.log2 with h2 | h2
  ·have:2 ^ 53<=2 ^ m.log2:=Nat.pow_le_pow_right (by decide) h2
   omega
  ·exact h2
theorem cut_exact (way:Toward) (neg:Bool) (q d:Nat) (hw:way=.even \/ way=.zero):way.cut neg (q*2 ^ d) d=q:=by
 by_cases hq:q=0
 ·subst hq
  have hg:0 < 1 <<< min d ((0*2 ^ d).log2+2):=by rw [Nat.shiftLeft_eq,Nat.one_mul];exact Nat.two_pow_pos _
  unfold Toward.cut
  simp only [Nat.zero_mul,Nat.zero_div,Nat.zero_mod] at hg ⊢
  rcases hw with rfl | rfl
  ·simp
  ·simp
 ·have hl:=log2_mul hq d
  unfold Toward.cut
  rw [hl,show min d (q.log2+d+2)=d by omega,Nat.shiftLeft_eq,Nat.one_mul]
  dsimp only
  rw [Nat.mul_div_cancel _ (Nat.two_pow_pos d),Nat.mul_mod_left]
  have:2 ^ d≠0:=Nat.ne_of_gt (Nat.two_pow_pos d)
  rcases hw with rfl | rfl
  ·simp
  ·simp
def fw (neg:Bool) (m:Nat):Nat:=if m=0 then double.word neg 0 else double.word neg ((m.log2+1022)*2 ^ 52+m*2 ^ (52 - m.log2))
theorem near (neg:Bool) {m:Nat} (h:m < 2 ^ 53) (k:Nat):double.nearest neg (m*2 ^ k) (-(k:Int))=fw neg m:=by
  have hL:=log2_lt h
  by_cases hm:m=0
  · subst hm;simp [Format.nearest,fw]
  · have hk:m*2 ^ k≠0:=by have:=Nat.mul_pos (Nat.pos_of_ne_zero hm) (Nat.two_pow_pos k);omega
    have hlog:=log2_mul hm k
    have hb:=(Nat.log2_eq_iff hm).1 rfl
    have hle:double.leastPlace = -1074:=by decide
    have hf:double.fractionBits=52:=rfl
    unfold Format.nearest fw
    rw [if_neg hk,if_neg hm,hlog,hle,hf]
    have hlast:max (-(k:Int)+((m.log2+k:Nat):Int) - ((52:Nat):Int)) (-1074)=(m.log2:Int) - 52:=by omega
    simp only [hlast]
    have hkept:Toward.even.cut neg ((m*2 ^ k) <<< (-(k:Int) - ((m.log2:Int) - 52)).toNat) ((m.log2:Int) - 52 - -(k:Int)).toNat=m*2 ^ (52 - m.log2):=by
      by_cases hc:k<=52 - m.log2
      · rw [show (-(k : Int) - ((m.log2 : Int) - 52)).toNat = 52 - m.log2 - k by omega, show ((m.log2 : Int) - 52 - -(k : Int)).toNat = 0 by omega, Nat.shiftLeft_eq, Nat.mul_assoc, <- Nat.pow_add,
          show k+(52 - m.log2 - k)=52 - m.log2 by omega]
        have:=cut_exact .even neg (m*2 ^ (52 - m.log2)) 0 (.inl rfl)
        rwa [Nat.pow_zero,Nat.mul_one] at this
      · rw [show (-(k:Int) - ((m.log2:Int) - 52)).toNat=0 by omega,show ((m.log2:Int) - 52 - -(k:Int)).toNat=k - (52 - m.log2) by omega,Nat.shiftLeft_eq,Nat.pow_zero,Nat.mul_one]
        have:=cut_exact .even neg (m*2 ^ (52 - m.log2)) (k - (52 - m.log2)) (.inl rfl)
        rwa [Nat.mul_assoc,<- Nat.pow_add,show 52 - m.log2+(k - (52 - m.log2))=k by omega] at this
    rw [hkept,show ((m.log2:Int) - 52 - -1074).toNat=m.log2+1022 by omega]
    have hbin:double.binade=2 ^ 52:=rfl
    have hinf:double.infRung=2047*2 ^ 52:=rfl
    rw [hbin,hinf]
    have hlt:m*2 ^ (52 - m.log2) < 2 ^ 53:=by
      have:=Nat.mul_lt_mul_of_pos_right hb.2 (Nat.two_pow_pos (52 - m.log2))
      rw [<-Nat.pow_add,show m.log2+1+(52 - m.log2)=53 by omega] at this
      exact this
    generalize m*2 ^ (52 - m.log2)=K at hlt ⊢
    rw [Nat.min_eq_left (by omega)]
def fl (n:Int):Nat:=FloatKind.f64.nearest n
theorem fl_fw {n:Int} (h:n.natAbs < 2 ^ 53):fl n=fw (decide (n < 0)) n.natAbs:=by
 have:=near (decide (n < 0)) h 0
 rw [Nat.pow_zero,Nat.mul_one] at this
 exact this
def Stands (d:Datum) (n:Int):Prop:=∃ k:Nat,d=.number (decide (n < 0)) (n.natAbs*2 ^ k) (-(k:Int))
theorem stands0:Stands (.number false 0 (-1074)) 0:=by
 refine ⟨1074,?_⟩
 generalize (2:Nat) ^ 1074=z
 rw [show Int.natAbs 0*z=0 from Nat.zero_mul z]
 rfl
theorem read_fl {n:Int} (h:n.natAbs < 2 ^ 53):Stands (double.read (fl n)) n:=by
 rw [fl_fw h]
 unfold fw
 by_cases hm:n.natAbs=0
 ·have:n=0:=by omega
  subst this
  have h2:double.read (double.word (decide ((0:Int) < 0)) 0)=.number false 0 (-1074):=by decide
  rw [if_pos hm,h2]
  exact stands0
 ·rw [if_neg hm]
  have hL:=log2_lt h
  have hb:=(Nat.log2_eq_iff hm).1 rfl
  have h1:2 ^ 52<=n.natAbs*2 ^ (52 - n.natAbs.log2):=by
   have:=Nat.mul_le_mul_right (2 ^ (52 - n.natAbs.log2)) hb.1
   rwa [<-Nat.pow_add,show n.natAbs.log2+(52 - n.natAbs.log2)=52 by omega] at this
  have h2:n.natAbs*2 ^ (52 - n.natAbs.log2) < 2 ^ 53:=by
   have:=Nat.mul_lt_mul_of_pos_right hb.2 (Nat.two_pow_pos (52 - n.natAbs.log2))
   rwa [<-Nat.pow_add,show n.natAbs.log2+1+(52 - n.natAbs.log2)=53 by omega] at this
  refine ⟨52 - n.natAbs.log2,?_⟩
  generalize hK:n.natAbs*2 ^ (52 - n.natAbs.log2)=K at h1 h2 ⊢
  generalize n.natAbs.log2=L at hL ⊢
  have hbin:double.binade=4503599627370496:=by decide
  have hinf:double.infRung=9218868437227405312:=by decide
  have hsw:double.signWeight=9223372036854775808:=by decide
  have hle:double.leastPlace = -1074:=by decide
  have w1:∀ neg:Bool,double.word neg ((L+1022)*2 ^ 52+K) / 9223372036854775808 % 2=neg.toNat /\ double.word neg ((L+1022)*2 ^ 52+K) % 9223372036854775808=(L+1022)*2 ^ 52+K:=fun neg=>by
   unfold Format.word
   rw [hsw]
   cases neg <;> simp <;> omega
  obtain ⟨a1,a2⟩:=w1 (decide (n < 0))
  unfold Format.read
  rw [hsw,hbin,hinf,hle,a1,a2]
  simp only
  rw [if_neg (by omega),if_pos (by omega)]
  congr 1
  ·cases decide (n < 0) <;> rfl
  ·omega
  ·omega
theorem signed_abs (n:Int) (k j:Nat):signed (decide (n < 0)) (n.natAbs*2 ^ k) j=n*2 ^ (k+j):=by
 unfold signed
 rw [Nat.shiftLeft_eq,Nat.mul_assoc,<- Nat.pow_add]
 by_cases h:n < 0
 ·simp only [h,decide_true,if_true]
  rw [Int.natCast_mul,Int.natCast_pow]
  have:(n.natAbs:Int) = -n:=by omega
  rw [this,Int.neg_mul,Int.neg_neg]
  rfl
 ·simp only [h,decide_false,Bool.false_eq_true,if_false]
  rw [Int.natCast_mul,Int.natCast_pow]
  have:(n.natAbs:Int)=n:=by omega
  rw [this]
  rfl
theorem base_eq (k l:Nat):min (-(k:Int)) (-(l:Int)) = -((max k l:Nat):Int):=by omega
theorem order_stands {d e:Datum} {a b:Int} (hd:Stands d a) (he:Stands e b):d.order e=some (compare a b):=by
 obtain ⟨k,rfl⟩:=hd
 obtain ⟨l,rfl⟩:=he
 unfold Datum.order
 simp only [base_eq]
 rw [show (-(k:Int) - -((max k l:Nat):Int)).toNat=max k l - k by omega,show (-(l:Int) - -((max k l:Nat):Int)).toNat=max k l - l by omega,signed_abs,signed_abs,
  show k+(max k l - k)=max k l by omega,show l+(max k l - l)=max k l by omega]
 have hp:(0:Int) < 2 ^ (max k l):=Int.pow_pos (by decide)
 congr 1
 simp only [compare,compareOfLessAndEq]
 have e1:a*2 ^ max k l < b*2 ^ max k l↔a < b:=⟨fun h=>Int.lt_of_mul_lt_mul_right h (Int.le_of_lt hp),fun h=>Int.mul_lt_mul_of_pos_right h hp⟩
 have e2:a*2 ^ max k l=b*2 ^ max k l↔a=b:=⟨fun h=>Int.eq_of_mul_eq_mul_right (by omega) h,fun h=>by rw [h]⟩
 simp only [e1,e2]
theorem toInt_stands {d:Datum} {a:Int} (hd:Stands d a):d.toInt .zero=some a:=by
 obtain ⟨k,rfl⟩:=hd
 unfold Datum.toInt Datum.integral
 simp only
 rw [show (-(k:Int)).toNat=0 by omega,show (- -(k:Int)).toNat=k by omega,Nat.shiftLeft_eq,Nat.pow_zero,Nat.mul_one,cut_exact .zero _ _ _ (.inr rfl)]
 have:=signed_abs a 0 0
 simp only [Nat.pow_zero,Nat.mul_one] at this
 rw [this]
 simp
theorem opp_stands {d:Datum} {b:Int} (hd:Stands d b) (hb:b≠0):Stands d.opposite (-b):=by
 obtain ⟨k,rfl⟩:=hd
 refine ⟨k,?_⟩
 unfold Datum.opposite
 simp only [Int.natAbs_neg]
 congr 1
 by_cases h:b < 0
 ·have h2:¬ (-b < 0):=by omega
  rw [decide_eq_true h,decide_eq_false h2];rfl
 ·have h2 : -b < 0:=by omega
  rw [decide_eq_false h,decide_eq_true h2];rfl
theorem sum_stands {d e:Datum} {a b:Int} (hd:Stands d a) (he:Stands e b) (h:(a+b).natAbs < 2 ^ 53):(d.sum e).map double.write=some (fl (a+b)):=by
 obtain ⟨k,rfl⟩:=hd
 obtain ⟨l,rfl⟩:=he
 unfold Datum.sum
 simp only [base_eq]
 rw [show (-(k:Int) - -((max k l:Nat):Int)).toNat=max k l - k by omega,show (-(l:Int) - -((max k l:Nat):Int)).toNat=max k l - l by omega,signed_abs,signed_abs,
  show k+(max k l - k)=max k l by omega,show l+(max k l - l)=max k l by omega,<- Int.add_mul]
 have hp:(0:Int) < 2 ^ (max k l):=Int.pow_pos (by decide)
 have hn:((a+b)*2 ^ max k l).natAbs=(a+b).natAbs*2 ^ max k l:=by rw [Int.natAbs_mul,Int.natAbs_pow];rfl
 have hz:(if (a+b)*2 ^ max k l=0 then (decide (a < 0)&&decide (b < 0)) else decide ((a+b)*2 ^ max k l < 0))=decide (a+b < 0):=by
  by_cases h0:a+b=0
  ·rw [h0,Int.zero_mul,if_pos rfl]
   by_cases ha:a < 0
   ·have:¬ b < 0:=by omega
    simp [this]
   ·simp [ha]
  ·have hne:(a+b)*2 ^ max k l≠0:=Int.mul_ne_zero h0 (by omega)
   rw [if_neg hne]
   have:(a+b)*2 ^ max k l < 0↔a+b < 0:=⟨fun hh=>Int.lt_of_mul_lt_mul_right (by rw [Int.zero_mul];exact hh) (Int.le_of_lt hp),fun hh=>Int.mul_neg_of_neg_of_pos hh hp⟩
   simp only [this]
 rw [hz,hn,Option.map_some]
 show some (double.nearest _ _ _)=_
 rw [near _ h,fl_fw h]
theorem fl_order {a b:Int} (ha:a.natAbs < 2 ^ 53) (hb:b.natAbs < 2 ^ 53):FloatKind.f64.format.order (fl a) (fl b)=some (compare a b):=order_stands (read_fl ha) (read_fl hb)
theorem fl_toInt {a:Int} (ha:a.natAbs < 2 ^ 53):(FloatKind.f64.decode (fl a)).toInt .zero=some a:=toInt_stands (read_fl ha)
theorem fl_add {a b:Int} (ha:a.natAbs < 2 ^ 53) (hb:b.natAbs < 2 ^ 53) (h:(a+b).natAbs < 2 ^ 53):FloatKind.f64.format.add (fl a) (fl b)=some (fl (a+b)):=sum_stands (read_fl ha) (read_fl hb) h
theorem fl_sub {a b:Int} (ha:a.natAbs < 2 ^ 53) (hb:b.natAbs < 2 ^ 53) (h:(a - b).natAbs < 2 ^ 53):FloatKind.f64.format.sub (fl a) (fl b)=some (fl (a - b)):=by
  by_cases h0:b=0
  · subst h0
    rw [Int.sub_zero]
    have hd:=read_fl ha
    have he:double.read (fl 0)=.number false 0 (-1074):=by decide
    show ((double.read (fl a)).sum (double.read (fl 0)).opposite).map double.write=_
    rw [he]
    obtain ⟨k,hk⟩:=hd
    rw [hk]
    have key:=sum_stands (d:=.number (decide (a < 0)) (a.natAbs*2 ^ k) (-(k:Int))) (e:=.number false 0 (-1074)) (a:=a) (b:=0) ⟨k,rfl⟩ stands0 (by rw [Int.add_zero];exact ha)
    rw [Int.add_zero] at key
    rw [<-key]
    show (Datum.sum _ (Datum.number true 0 (-1074))).map double.write=_
    have hs:∀ (q:Bool) (x:Nat),signed q 0 x=0:=fun q x=>by unfold signed;rw [Nat.zero_shiftLeft];cases q <;> rfl
    unfold Datum.sum
    simp only [hs,Int.add_zero]
    by_cases hneg:a < 0
    · have hne : ∀ x : Nat, signed (decide (a < 0)) (a.natAbs * 2 ^ k) x ≠ 0 := fun x => by
        rw [signed_abs]
        exact Int.mul_ne_zero (by omega) (Int.ne_of_gt (Int.pow_pos (by decide)))
      rw [if_neg (hne _),if_neg (hne _)]
    · rw [decide_eq_false hneg]
      rfl
  · exact Eq.trans (sum_stands (read_fl ha) (opp_stands (read_fl hb) h0) (by rwa [<-Int.sub_eq_add_neg])) (by rw [<-Int.sub_eq_add_neg])
end Vc
end Go.Proofs.YtifbhefbhlbofaaDoor
namespace Go.Proofs.YtifbhefbhlbofaaDoor
open Pv
set_option linter.unusedVariables false
def InW (n:Int):Prop:=-2147483647<=n /\ n<=2147483647
theorem InW.abs {n:Int} (h:InW n):n.natAbs < 2 ^ 53:=by
 have h1:=h.1
 have h2:=h.2
 have:(2:Nat) ^ 53=9007199254740992:=by decide
 omega
theorem abs53 {n:Int} (h1 : -9000000000<=n) (h2:n<=9000000000):n.natAbs < 2 ^ 53:=by
 have:(2:Nat) ^ 53=9007199254740992:=by decide
 omega
theorem fgt_fl {a b:Int} (ha:a.natAbs < 2 ^ 53) (hb:b.natAbs < 2 ^ 53):fgt .f64 (Vc.fl a) (Vc.fl b)=decide (b < a):=by
 unfold fgt
 rw [Vc.fl_order ha hb]
 rcases Int.lt_trichotomy a b with h | h | h
 ·rw [Int.compare_eq_lt.2 h,decide_eq_false (by omega)];rfl
 ·rw [h,Int.compare_eq_eq.2 rfl,decide_eq_false (by omega)];rfl
 ·rw [Int.compare_eq_gt.2 h,decide_eq_true h];rfl
theorem flt_fl {a b:Int} (ha:a.natAbs < 2 ^ 53) (hb:b.natAbs < 2 ^ 53):flt .f64 (Vc.fl a) (Vc.fl b)=decide (a < b):=by
 unfold flt
 rw [Vc.fl_order ha hb]
 rcases Int.lt_trichotomy a b with h | h | h
 ·rw [Int.compare_eq_lt.2 h,decide_eq_true h];rfl
 ·rw [h,Int.compare_eq_eq.2 rfl,decide_eq_false (by omega)];rfl
 ·rw [Int.compare_eq_gt.2 h,decide_eq_false (by omega)];rfl
theorem feq_fl {a b:Int} (ha:a.natAbs < 2 ^ 53) (hb:b.natAbs < 2 ^ 53):feq .f64 (Vc.fl a) (Vc.fl b)=decide (a=b):=by
 unfold feq
 rw [Vc.fl_order ha hb]
 rcases Int.lt_trichotomy a b with h | h | h
 ·rw [Int.compare_eq_lt.2 h,decide_eq_false (by omega)];rfl
 ·rw [h,Int.compare_eq_eq.2 rfl,decide_eq_true rfl];rfl
 ·rw [Int.compare_eq_gt.2 h,decide_eq_false (by omega)];rfl
theorem fl_top:Vc.fl 2147483647=4746794007244308480:=by decide +kernel
theorem fl_bot:Vc.fl (-2147483647)=13970166044099084288:=by decide +kernel
theorem fl_zero:Vc.fl 0=0:=by decide +kernel
theorem foI_fl (n:Int):foI .f64 n=Vc.fl n:=rfl
theorem ftoI_fl {n:Int} (h:InW n):ftoI .f64 .i64 (Vc.fl n)=some n:=by
 unfold ftoI
 rw [Vc.fl_toInt h.abs]
 have h1:=h.1
 have h2:=h.2
 have e1:IntKind.i64.min = -9223372036854775808:=by decide
 have e2:IntKind.i64.max=9223372036854775807:=by decide
 simp only
 rw [e1,e2,decide_eq_true (by omega),decide_eq_true (by omega)]
 rfl
theorem part_in {n:Int} (h:InW n):F_flow_part (Vc.fl n)=some (n,true):=by
 unfold F_flow_part
 have h1:=h.1
 have h2:=h.2
 rw [<-fl_top,<- fl_bot,fgt_fl h.abs (by decide),feq_fl h.abs (by decide),flt_fl h.abs (by decide),feq_fl h.abs (by decide)]
 have e:(!((decide (-2147483647 < n)||decide (n = -2147483647))&&(decide (n < 2147483647)||decide (n=2147483647))))=false:=by
  simp only [Bool.not_eq_false',Bool.and_eq_true,Bool.or_eq_true,decide_eq_true_eq]
  omega
 rw [e,cond_false,ftoI_fl h]
 simp only [Option.bind_some]
 rw [foI_fl,feq_fl h.abs h.abs,decide_eq_true rfl]
def fz (a b:Int):Nat×Nat:=(Vc.fl a,Vc.fl b)
theorem parts_in {a b:Int} (ha:InW a) (hb:InW b):F_flow_parts (fz a b)=some (a,b,true):=by
 unfold F_flow_parts fz
 rw [part_in ha,Option.bind_some,part_in hb]
 rfl
theorem cut_in {a:Int} (ha:InW a):F_flow_cut a=some a:=by
 have h1:=ha.1
 have h2:=ha.2
 unfold F_flow_cut minI maxI
 rw [decide_eq_false (show ¬ -2147483647 > a by omega),cond_false,decide_eq_false (show ¬ 2147483647 < a by omega),cond_false]
theorem windows_in {a b:Int} (ha:InW a) (hb:InW b):F_flow_Windows a b=some (fz a b):=by
 unfold F_flow_Windows
 rw [cut_in ha,Option.bind_some,cut_in hb]
 rfl
theorem stream_in {a b:Int} (ha:InW a) (hb:InW b):F_flow_Stream (fz a b)=some a:=by
 unfold F_flow_Stream
 rw [parts_in ha hb]
 rfl
theorem conn_in {a b:Int} (ha:InW a) (hb:InW b):F_flow_Conn (fz a b)=some b:=by
 unfold F_flow_Conn
 rw [parts_in ha hb]
 rfl
theorem may_in {a b:Int} (ha:InW a) (hb:InW b):F_flow_May (fz a b)=some (maxI (minI a b) 0):=by
 unfold F_flow_May
 rw [stream_in ha hb,Option.bind_some,conn_in ha hb]
 rfl
theorem spend_in {a b n:Int} (ha:InW a) (hb:InW b) (h0:0<=n) (h1:n<=a) (h2:n<=b):F_flow_Spend (fz a b) n=some (fz (a - n) (b - n),0):=by
 have a2:=ha.2
 have b2:=hb.2
 have hm:¬ n > maxI (minI a b) 0:=by
  unfold maxI minI
  by_cases hab:b < a
  ·rw [decide_eq_true hab,cond_true]
   by_cases h:(0:Int) > b
   ·omega
   ·rw [decide_eq_false h,cond_false];omega
  ·rw [decide_eq_false hab,cond_false]
   by_cases h:(0:Int) > a
   ·omega
   ·rw [decide_eq_false h,cond_false];omega
 unfold F_flow_Spend
 rw [parts_in ha hb,Option.bind_some,decide_eq_false (show ¬ n < 0 by omega),Bool.or_false]
 show cond false _ _=_
 rw [cond_false,may_in ha hb,Option.bind_some,decide_eq_false hm,cond_false]
 show (fsub .f64 (Vc.fl a) (Vc.fl n)).bind _=_
 have hn:n.natAbs < 2 ^ 53:=abs53 (by omega) (by omega)
 unfold fsub fz
 rw [Vc.fl_sub ha.abs hn (abs53 (by omega) (by omega)),Option.bind_some]
 show (FloatKind.f64.format.sub (Vc.fl b) (Vc.fl n)).bind _=_
 rw [Vc.fl_sub hb.abs hn (abs53 (by omega) (by omega)),Option.bind_some]
theorem spend_over {a b n:Int} (ha:InW a) (hb:InW b) (h0:0 < n) (h:a < n \/ b < n):F_flow_Spend (fz a b) n=some ((0,0),1):=by
 have hm:n > maxI (minI a b) 0:=by
  unfold maxI minI
  by_cases hab:b < a
  ·rw [decide_eq_true hab,cond_true]
   by_cases h:(0:Int) > b
   ·rw [decide_eq_true h,cond_true];omega
   ·rw [decide_eq_false h,cond_false];omega
  ·rw [decide_eq_false hab,cond_false]
   by_cases h:(0:Int) > a
   ·rw [decide_eq_true h,cond_true];omega
   ·rw [decide_eq_false h,cond_false];omega
 unfold F_flow_Spend
 rw [parts_in ha hb,Option.bind_some,decide_eq_false (show ¬ n < 0 by omega),Bool.or_false]
 show cond false _ _=_
 rw [cond_false,may_in ha hb,Option.bind_some,decide_eq_true hm,cond_true]
theorem grant_in {a b s c:Int} (ha:InW a) (hb:InW b) (hs:0<=s) (hs2:s<=2147483647) (hc:0<=c) (hc2:c<=2147483647):F_flow_Grant (fz a b) s c =
  some (cond (decide (b+c > 2147483647)) ((0,0),true,true,3) (cond (decide (a+s > 2147483647)) ((0,0),true,false,3) (fz (a+s) (b+c),false,false,0))):=by
 have a1:=ha.1
 have a2:=ha.2
 have b1:=hb.1
 have b2:=hb.2
 unfold F_flow_Grant
 rw [parts_in ha hb,Option.bind_some,decide_eq_false (show ¬ s < 0 by omega),decide_eq_false (show ¬ s > 2147483647 by omega),decide_eq_false (show ¬ c < 0 by omega),decide_eq_false (show ¬ c > 2147483647 by omega)]
 simp only [Bool.or_false,Bool.not_true,cond_false]
 show (fadd .f64 (Vc.fl a) (Vc.fl s)).bind _=_
 have hs3:s.natAbs < 2 ^ 53:=abs53 (by omega) (by omega)
 have hc3:c.natAbs < 2 ^ 53:=abs53 (by omega) (by omega)
 unfold fadd
 rw [Vc.fl_add ha.abs hs3 (abs53 (by omega) (by omega)),Option.bind_some]
 show (FloatKind.f64.format.add (Vc.fl b) (Vc.fl c)).bind _=_
 rw [Vc.fl_add hb.abs hc3 (abs53 (by omega) (by omega)),Option.bind_some,<- fl_top,fgt_fl (abs53 (by omega) (by omega)) (by decide),fgt_fl (abs53 (by omega) (by omega)) (by decide)]
 by_cases h1:b+c > 2147483647
 ·rw [decide_eq_true h1,cond_true];rfl
 ·rw [decide_eq_false h1,cond_false]
  by_cases h2:a+s > 2147483647
  ·rw [decide_eq_true h2,cond_true];rfl
  ·rw [decide_eq_false h2,cond_false];rfl
theorem wB64 {x:Int} (h0 : -4611686018427387904<=x) (h1:x<=4611686018427387904):IntKind.i64.wrap x=x:=by
 show (if (true&&decide (x % 18446744073709551616 >= 9223372036854775808))=true then x % 18446744073709551616 - 18446744073709551616 else x % 18446744073709551616)=x
 simp only [Bool.true_and,decide_eq_true_eq]
 split <;> omega
theorem e40:(2:Int) ^ 40=1099511627776:=by decide
theorem w40:∀ n:Int,0<=n->n < 2 ^ 40->IntKind.i64.wrap n=n:=fun n h0 h1=>wB64 (by omega) (by rw [e40] at h1;omega)
theorem or8 {x y:Int} (hx:0<=x) (hx1:x < 1099511627776) (hm:x % 256=0) (hy:0<=y) (hy1:y < 256):bits .or .i64 x y=x+y:=
 bits_join .i64 40 (by decide) w40 8 x y hx hm (by rw [e40];exact hx1) hy hy1 (by rw [e40];omega)
theorem or16 {x y:Int} (hx:0<=x) (hx1:x < 1099511627776) (hm:x % 65536=0) (hy:0<=y) (hy1:y < 65536):bits .or .i64 x y=x+y:=
 bits_join .i64 40 (by decide) w40 16 x y hx hm (by rw [e40];exact hx1) hy hy1 (by rw [e40];omega)
theorem or24 {x y:Int} (hx:0<=x) (hx1:x < 1099511627776) (hm:x % 16777216=0) (hy:0<=y) (hy1:y < 16777216):bits .or .i64 x y=x+y:=
 bits_join .i64 40 (by decide) w40 24 x y hx hm (by rw [e40];exact hx1) hy hy1 (by rw [e40];omega)
theorem and31 {x:Int} (hx:0<=x) (hx1:x < 1099511627776):bits .and .i64 x 2147483647=x % 2147483648:=bits_mask .i64 40 (by decide) w40 31 (by decide) x hx (by rw [e40];exact hx1)
theorem num3 {a b c:Int} (ha:0<=a /\ a < 256) (hb:0<=b /\ b < 256) (hc:0<=c /\ c < 256) :
  bits .or .i64 (bits .or .i64 (IntKind.i64.wrap ((IntKind.i64.wrap a)*2 ^ 16)) (IntKind.i64.wrap ((IntKind.i64.wrap b)*2 ^ 8))) (IntKind.i64.wrap c)=a*65536+b*256+c:=by
 have e16:(2:Int) ^ 16=65536:=by decide
 have e8:(2:Int) ^ 8=256:=by decide
 rw [e16,e8,wB64 (x:=a) (by omega) (by omega),wB64 (x:=b) (by omega) (by omega),wB64 (x:=c) (by omega) (by omega),wB64 (x:=a*65536) (by omega) (by omega),wB64 (x:=b*256) (by omega) (by omega),
  or16 (x:=a*65536) (y:=b*256) (by omega) (by omega) (by omega) (by omega) (by omega),or8 (by omega) (by omega) (by omega) (by omega) (by omega)]
theorem num4 {a b c d:Int} (ha:0<=a /\ a < 256) (hb:0<=b /\ b < 256) (hc:0<=c /\ c < 256) (hd:0<=d /\ d < 256) :
  bits .or .i64 (bits .or .i64 (bits .or .i64 (IntKind.i64.wrap ((IntKind.i64.wrap a)*2 ^ 24)) (IntKind.i64.wrap ((IntKind.i64.wrap b)*2 ^ 16))) (IntKind.i64.wrap ((IntKind.i64.wrap c)*2 ^ 8))) (IntKind.i64.wrap d)=a*16777216+b*65536+c*256+d:=by
 have e24:(2:Int) ^ 24=16777216:=by decide
 have e16:(2:Int) ^ 16=65536:=by decide
 have e8:(2:Int) ^ 8=256:=by decide
 rw [e24,e16,e8,wB64 (x:=a) (by omega) (by omega),wB64 (x:=b) (by omega) (by omega),wB64 (x:=c) (by omega) (by omega),wB64 (x:=d) (by omega) (by omega),wB64 (x:=a*16777216) (by omega) (by omega),wB64 (x:=b*65536) (by omega) (by omega),wB64 (x:=c*256) (by omega) (by omega),
  or24 (x:=a*16777216) (y:=b*65536) (by omega) (by omega) (by omega) (by omega) (by omega),or16 (y:=c*256) (by omega) (by omega) (by omega) (by omega) (by omega),or8 (by omega) (by omega) (by omega) (by omega) (by omega)]
def hd9 (n k fl s:Int):List Int:=[n / 65536,n / 256 % 256,n % 256,k,fl,s / 16777216,s / 65536 % 256,s / 256 % 256,s % 256]
def fb (k fl s:Int) (body:List Int):List Int:=hd9 (body.length:Int) k fl s++body
theorem fb_len (k fl s:Int) (body:List Int):(fb k fl s body).length=9+body.length:=by
 unfold fb
 rw [List.length_append];rfl
def okFb (k fl s:Int) (body:List Int):Prop:=(0<=k /\ k < 256) /\ (0<=fl /\ fl < 256) /\ (0<=s /\ s<=2147483647) /\ body.length<=16384
theorem cutI_mid {α:Type} (a b c:List α) {m n:Int} (hm:m=(a.length:Int)) (hn:n=((a.length+b.length:Nat):Int)):cutI (a++b++c) m n=some b:=by
 subst hm;subst hn
 unfold cutI
 rw [decide_eq_true (by omega),decide_eq_true (by omega),decide_eq_true (by simp only [List.length_append];omega)]
 simp only [Bool.and_self,cond_true]
 rw [Int.toNat_natCast,Int.toNat_natCast,show a.length+b.length=(a++b).length by rw [List.length_append],List.take_left,List.drop_left]
theorem cutI_end {α:Type} (a b:List α) {m n:Int} (hm:m=(a.length:Int)) (hn:n=((a++b).length:Int)):cutI (a++b) m n=some b:=by
 have:=cutI_mid a b [] (m:=m) (n:=n) hm (by rw [hn,List.length_append])
 rwa [List.append_nil] at this
variable {p : Int} {Ps : List (Int × List Int)}
theorem next_fb {k fl s:Int} {body rest:List Int} (hp:nnI p=true) (hok:okFb k fl s body) (hg:getI Ps p=some (16384,fb k fl s body++rest)) (hr:rest.length<=1000000000) :
  F_frame_Parser_Next p Ps=some (k,fl,s,body,0,Ps.set p.toNat (16384,rest)):=by
 obtain ⟨hk,hfl,hs,hb⟩:=hok
 obtain ⟨n,hn⟩:∃ n:Int,(body.length:Int)=n:=⟨_,rfl⟩
 have hn0:0<=n /\ n<=16384:=by omega
 have hX:fb k fl s body++rest=hd9 n k fl s++body++rest:=by unfold fb;rw [hn]
 have hlen:((fb k fl s body++rest).length:Int)=9+n+(rest.length:Int):=by rw [List.length_append,fb_len];omega
 have g0:getI (fb k fl s body++rest) 0=some (n / 65536):=by rw [hX];rfl
 have g1:getI (fb k fl s body++rest) 1=some (n / 256 % 256):=by rw [hX];rfl
 have g2:getI (fb k fl s body++rest) 2=some (n % 256):=by rw [hX];rfl
 have g3:getI (fb k fl s body++rest) 3=some k:=by rw [hX];rfl
 have g4:getI (fb k fl s body++rest) 4=some fl:=by rw [hX];rfl
 have g5:getI (fb k fl s body++rest) 5=some (s / 16777216):=by rw [hX];rfl
 have g6:getI (fb k fl s body++rest) 6=some (s / 65536 % 256):=by rw [hX];rfl
 have g7:getI (fb k fl s body++rest) 7=some (s / 256 % 256):=by rw [hX];rfl
 have g8:getI (fb k fl s body++rest) 8=some (s % 256):=by rw [hX];rfl
 have h3:bits .or .i64 (bits .or .i64 (IntKind.i64.wrap ((IntKind.i64.wrap (n / 65536))*2 ^ 16)) (IntKind.i64.wrap ((IntKind.i64.wrap (n / 256 % 256))*2 ^ 8))) (IntKind.i64.wrap (n % 256))=n:=by
  rw [num3 (by omega) (by omega) (by omega)];omega
 have h4:bits .and .i64 (bits .or .i64 (bits .or .i64 (bits .or .i64 (IntKind.i64.wrap ((IntKind.i64.wrap (s / 16777216))*2 ^ 24)) (IntKind.i64.wrap ((IntKind.i64.wrap (s / 65536 % 256))*2 ^ 16))) (IntKind.i64.wrap ((IntKind.i64.wrap (s / 256 % 256))*2 ^ 8))) (IntKind.i64.wrap (s % 256))) 2147483647=s:=by
  rw [num4 (by omega) (by omega) (by omega) (by omega),show s / 16777216*16777216+s / 65536 % 256*65536+s / 256 % 256*256+s % 256=s by omega,and31 (by omega) (by omega)]
  omega
 have hc:cutI (fb k fl s body++rest) 9 (9+n)=some body:=by
  rw [hX]
  exact cutI_mid _ _ _ rfl (by show 9+n=((9+body.length:Nat):Int);omega)
 have hc2:cutI (fb k fl s body++rest) (9+n) (9+n+(rest.length:Int))=some rest:=by
  refine cutI_end _ _ ?_ ?_
  ·rw [fb_len];omega
  ·rw [List.length_append,fb_len];omega
 unfold F_frame_Parser_Next
 refine join_inl ?_
 unfold chk
 simp only [hp,cond_true,hg,Option.bind_some,hlen,g0,g1,g2,g3,g4,g5,g6,g7,g8,h3,h4]
 rw [decide_eq_false (show ¬ 9+n+(rest.length:Int) < 9 by omega),cond_false,decide_eq_false (show ¬ n > 16384 by omega),cond_false,wB64 (x:=9+n+(rest.length:Int) - 9) (by omega) (by omega),decide_eq_false (show ¬ 9+n+(rest.length:Int) - 9 < n by omega),cond_false,wB64 (x:=9+n) (by omega) (by omega),hc,Option.bind_some]
 unfold F_bytes_Clone
 rw [Nat.ble_eq_true_of_le (show body.length<=100000000 by omega),cond_true,Option.bind_some,hc2,Option.bind_some,wB64 (x:=fl) (by omega) (by omega),wB64 (x:=k) (by omega) (by omega)]
theorem feed_at {room:Int} {X Y:List Int} (hp:nnI p=true) (hg:getI Ps p=some (room,X)) (hl:X.length+Y.length<=100000000):F_frame_Parser_Feed p Y Ps=some (Ps.set p.toNat (room,X++Y)):=by
 unfold F_frame_Parser_Feed chk F_slices_Concat_byte_byte
 have e:([X,Y]:List (List Int)).flatten=X++Y:=by simp
 simp only [hp,cond_true,hg,Option.bind_some,e]
 rw [Nat.ble_eq_true_of_le (show (X++Y).length<=100000000 by rw [List.length_append];exact hl),Nat.ble_eq_true_of_le (show ([X,Y]:List (List Int)).length<=100000000 by simp)]
 rfl
end Go.Proofs.YtifbhefbhlbofaaDoor

namespace Go.Proofs.YtifbhefbhlbofaaDoor
open Pv
set_option linter.unusedVariables false
namespace Vp
def Tot {α:Type} (P:α->Prop) (o:Option α):Prop:=∃ x,o=some x /\ P x
theorem tot_some {α:Type} {P:α->Prop} {x:α} (h:P x):Tot P (some x):=⟨x,rfl,h⟩
theorem tot_chk {α:Type} {P:α->Prop} {b:Bool} {o:Option α} (hb:b=true) (h:Tot P o):Tot P (chk b o):=by subst hb;exact h
theorem tot_cond {α:Type} {P:α->Prop} {b:Bool} {x y:Option α} (h1:b=true->Tot P x) (h2:b=false->Tot P y):Tot P (cond b x y):=by
 cases b with
 | true=>exact h1 rfl
 | false=>exact h2 rfl
theorem tot_bind {α β:Type} {P:α->Prop} {Q:β->Prop} {o:Option α} {f:α->Option β} (h:Tot P o) (k:∀ x,P x->Tot Q (f x)):Tot Q (o.bind f):=by
 obtain ⟨x,rfl,hx⟩:=h
 exact k x hx
theorem tot_mono {α:Type} {P Q:α->Prop} {o:Option α} (h:Tot P o) (k:∀ x,P x->Q x):Tot Q o:=by
 obtain ⟨x,e,hx⟩:=h
 exact ⟨x,e,k x hx⟩
theorem tot_join {S R:Type} {P:R->Prop} {Q:S->Prop} {a:Option (R⊕S)} {b:S->Option R} (h:Tot (fun x=>match x with | .inl r=>P r | .inr s=>Q s) a) (k:∀ s,Q s->Tot P (b s)):Tot P (joinC a b):=by
 obtain ⟨x,rfl,hx⟩:=h
 cases x with
 | inl r=>exact ⟨r,rfl,hx⟩
 | inr s=>exact k s hx
theorem tot_loop {S R:Type} {P:R->Prop} {I:S->Prop} {body:S->Option (R⊕S)} (μ:S->Nat) (h:∀ s,I s->Tot (fun x=>match x with | .inl r=>P r | .inr s'=>I s' /\ μ s' < μ s) (body s)):∀ (n:Nat) (s:S),μ s<=n->I s->Tot P (loopC body s)
 | n,s,hn,hs=>by
  obtain ⟨x,e,hx⟩:=h s hs
  cases x with
  | inl r=>exact ⟨r,loop_inl e,hx⟩
  | inr s'=>
   cases n with
   | zero=>have:=hx.2;omega
   | succ n=>
    obtain ⟨r,e2,hr⟩:=tot_loop μ h n s' (by have:=hx.2;omega) hx.1
    exact ⟨r,loop_inr e e2,hr⟩
section
variable {α : Type} {l r : List α} {i j : Int} {x y : α}
theorem gi_some (h:getI l j=some x):0<=j /\ j < (l.length:Int) /\ l[j.toNat]? = some x:=by
 unfold getI at h
 cases hd:decide (0<=j) with
 | false=>rw [hd] at h;cases h
 | true=>
  rw [hd,cond_true] at h
  have h0:0<=j:=of_decide_eq_true hd
  have:=(List.getElem?_eq_some_iff.1 h).1
  exact ⟨h0,by omega,h⟩
theorem gi_of (h0:0<=j) (h:l[j.toNat]? = some x):getI l j=some x:=by
 unfold getI
 rw [decide_eq_true h0,cond_true,h]
theorem gi_lt (h0:0<=j) (h1:j < (l.length:Int)):∃ x,getI l j=some x /\ x∈l:=by
 have hn:j.toNat < l.length:=by omega
 exact ⟨l[j.toNat],gi_of h0 (List.getElem?_eq_getElem hn),List.getElem_mem hn⟩
theorem gi_nn (h:getI l j=some x):nnI j=true:=decide_eq_true (gi_some h).1
theorem gi_set (h:getI l j=some y):getI (l.set j.toNat x) j=some x:=by
 obtain ⟨h0,h1,_⟩:=gi_some h
 refine gi_of h0 ?_
 rw [List.getElem?_set,if_pos rfl,if_pos (by omega)]
theorem gi_ne (hi:0<=i) (hij:i≠j) (h:getI l j=some y):getI (l.set i.toNat x) j=some y:=by
 obtain ⟨h0,h1,h2⟩:=gi_some h
 refine gi_of h0 ?_
 rw [List.getElem?_set,if_neg (by omega),h2]
theorem gi_app (h:getI l j=some y):getI (l++r) j=some y:=by
 obtain ⟨h0,h1,h2⟩:=gi_some h
 refine gi_of h0 ?_
 rw [List.getElem?_append_left (by omega),h2]
theorem gi_new:getI (l++[y]) (l.length:Int)=some y:=gi_of (by omega) (by rw [Int.toNat_natCast,List.getElem?_append_right (Nat.le_refl _),Nat.sub_self];rfl)
theorem st_new:(l++[x]).set (l.length:Int).toNat y=l++[y]:=by
 rw [Int.toNat_natCast,List.set_append_right _ _ (Nat.le_refl _),Nat.sub_self];rfl
theorem st_two:(l.set j.toNat x).set j.toNat y=l.set j.toNat y:=List.set_set _
theorem st_same (h:getI l j=some x):l.set j.toNat x=l:=by
 obtain ⟨h0,h1,h2⟩:=gi_some h
 apply List.ext_getElem?
 intro k
 rw [List.getElem?_set]
 split
 ·rename_i e
  subst e
  rw [if_pos (by omega),h2]
 ·rfl
end
theorem cut_ok {α:Type} {l:List α} {a b:Int} (h0:0<=a) (h1:a<=b) (h2:b<=(l.length:Int)):cutI l a b=some ((l.take b.toNat).drop a.toNat):=by
 unfold cutI
 rw [decide_eq_true h0,decide_eq_true h1,decide_eq_true h2]
 rfl
theorem cut_tail {α:Type} {l:List α} {a:Int} (h0:0<=a) (h1:a<=(l.length:Int)):cutI l a (l.length:Int)=some (l.drop a.toNat):=by
 rw [cut_ok h0 h1 (Int.le_refl _),Int.toNat_natCast,List.take_length]
theorem cut_head {α:Type} {l:List α} {a:Int} (h0:0<=a) (h1:a<=(l.length:Int)):cutI l 0 a=some (l.take a.toNat):=by
 rw [cut_ok (Int.le_refl _) h0 h1]
 rfl
theorem w64 {x:Int} (h0 : -4611686018427387904<=x) (h1:x<=4611686018427387904):IntKind.i64.wrap x=x:=by rw [IntKind.wrap_i64];omega
theorem ck1 {n m:Nat} (h:n+m<=100000000):(decide ((n+m)*1<=140737488355328)&&decide (n+m<=maxLen))=true:=by
 have hm:maxLen=9223372036854775807:=rfl
 rw [Bool.and_eq_true,decide_eq_true_iff,decide_eq_true_iff];omega
theorem ck8 {n m:Nat} (h:n+m<=100000000):(decide ((n+m)*8<=140737488355328)&&decide (n+m<=maxLen))=true:=by
 have hm:maxLen=9223372036854775807:=rfl
 rw [Bool.and_eq_true,decide_eq_true_iff,decide_eq_true_iff];omega
theorem ck16 {n m:Nat} (h:n+m<=100000000):(decide ((n+m)*16<=140737488355328)&&decide (n+m<=maxLen))=true:=by
 have hm:maxLen=9223372036854775807:=rfl
 rw [Bool.and_eq_true,decide_eq_true_iff,decide_eq_true_iff];omega
theorem ck40 {n m:Nat} (h:n+m<=100000000):(decide ((n+m)*40<=140737488355328)&&decide (n+m<=maxLen))=true:=by
 have hm:maxLen=9223372036854775807:=rfl
 rw [Bool.and_eq_true,decide_eq_true_iff,decide_eq_true_iff];omega
def Byt (l:List Int):Prop:=∀ x∈l,0<=x /\ x < 256
theorem Byt.app {a b:List Int} (h:Byt a) (k:Byt b):Byt (a++b):=fun x hx=>(List.mem_append.1 hx).elim (h x) (k x)
theorem Byt.drop {a:List Int} {n:Nat} (h:Byt a):Byt (a.drop n):=fun x hx=>h x (List.mem_of_mem_drop hx)
theorem Byt.take {a:List Int} {n:Nat} (h:Byt a):Byt (a.take n):=fun x hx=>h x (List.mem_of_mem_take hx)
theorem Byt.nil:Byt []:=fun x hx=>by cases hx
abbrev Bk:=List Int×List Int×List Int×List Int
noncomputable def bitz (s:Nat):Int:=match F_huff_bitsOf (s:Int) with | some x=>x | none=>0
theorem bitz_all:∀ s:Fin 257,F_huff_bitsOf (s.val:Int)=some (bitz s.val):=by decide +kernel
theorem bitz_eq {s:Nat} (h:s < 257):F_huff_bitsOf (s:Int)=some (bitz s):=bitz_all ⟨s,h⟩
noncomputable def filt (n:Int) (s k:Nat):List Int:=((List.range' s k).filter fun i=>bitz i==n).map fun i:Nat=>(i:Int)
theorem filt_zero (n:Int) (s:Nat):filt n s 0=[]:=rfl
theorem filt_succ (n:Int) (s k:Nat):filt n s (k+1)=cond (bitz s==n) ((s:Int)::filt n (s+1) k) (filt n (s+1) k):=by
 unfold filt
 rw [List.range'_succ,List.filter_cons]
 cases bitz s==n <;> rfl
theorem filt_len (n:Int) (s k:Nat):(filt n s k).length<=k:=by
 unfold filt
 rw [List.length_map]
 exact Nat.le_trans (List.length_filter_le _ _) (by rw [List.length_range'];exact Nat.le_refl _)
section
variable {B : List Bk}
theorem order_loop {n:Int} {f m p:List Int}:∀ (k s:Nat) (o:List Int),s+k=257->o.length+k<=100000->loopC (F_huff_opened_L12 B n) ((s:Int),B++[(f,m,p,o)])=some (.inr (B++[(f,m,p,o++filt n s k)]))
 | 0,s,o,h,_=>by
  rw [filt_zero,List.append_nil]
  refine loop_inl ?_
  unfold F_huff_opened_L12
  dsimp only
  rw [decide_eq_false (by omega),cond_false]
 | k+1,s,o,h,ho=>by
  rw [filt_succ]
  cases hb:(bitz s==n) with
  | true=>
   have ih:=order_loop (n:=n) (f:=f) (m:=m) (p:=p) k (s+1) (o++[(s:Int)]) (by omega) (by rw [List.length_append];simp;omega)
   rw [List.append_assoc] at ih
   refine loop_inr (s':=(((s+1:Nat):Int),B++[(f,m,p,o++[(s:Int)])])) ?_ ih
   unfold F_huff_opened_L12 chk
   dsimp only
   have hn:nnI (B.length:Int)=true:=decide_eq_true (by omega)
   have he:eqI (B.length:Int) (B.length:Int)=true:=beq_self_eq_true _
   rw [decide_eq_true (show (s:Int) < 257 by omega),cond_true,bitz_eq (by omega),Option.bind_some,hb,cond_true,hn,cond_true,gi_new,Option.bind_some,ck8 (by simp;omega),cond_true,cond_true,Option.bind_some,he,cond_true,st_new,w64 (by omega) (by omega)]
   rfl
  | false=>
   have ih:=order_loop (n:=n) (f:=f) (m:=m) (p:=p) k (s+1) o (by omega) (by omega)
   refine loop_inr (s':=(((s+1:Nat):Int),B++[(f,m,p,o)])) ?_ ih
   unfold F_huff_opened_L12 chk
   dsimp only
   rw [decide_eq_true (show (s:Int) < 257 by omega),cond_true,bitz_eq (by omega),Option.bind_some,hb,cond_false,w64 (by omega) (by omega)]
   rfl
noncomputable def bkStep (n:Nat) (x:Int×Bk):Int×Bk:=
 (IntKind.i64.wrap (IntKind.i64.wrap (x.1+IntKind.i64.wrap (((x.2.2.2.2++filt (n:Int) 0 257).length:Int) - (x.2.2.2.2.length:Int)))*2 ^ 1),
  x.2.1.set n x.1,x.2.2.1.set n (IntKind.i64.wrap (((x.2.2.2.2++filt (n:Int) 0 257).length:Int) - (x.2.2.2.2.length:Int))),x.2.2.2.1.set n (x.2.2.2.2.length:Int),x.2.2.2.2++filt (n:Int) 0 257)
noncomputable def bkN:Nat->Int×Bk
 | 0=>(0,List.replicate 31 0,List.replicate 31 0,List.replicate 31 0,[])
 | k+1=>bkStep (5+k) (bkN k)
theorem bkN_len:∀ k,(bkN k).2.1.length=31 /\ (bkN k).2.2.1.length=31 /\ (bkN k).2.2.2.1.length=31 /\ (bkN k).2.2.2.2.length<=257*k
 | 0=>by
  refine ⟨?_,?_,?_,?_⟩ <;> (unfold bkN;simp)
 | k+1=>by
  obtain ⟨h1,h2,h3,h4⟩:=bkN_len k
  have h5:=filt_len ((5+k:Nat):Int) 0 257
  refine ⟨?_,?_,?_,?_⟩
  ·show ((bkN k).2.1.set _ _).length=31
   rw [List.length_set,h1]
  ·show ((bkN k).2.2.1.set _ _).length=31
   rw [List.length_set,h2]
  ·show ((bkN k).2.2.2.1.set _ _).length=31
   rw [List.length_set,h3]
  ·show ((bkN k).2.2.2.2++filt _ 0 257).length<=_
   rw [List.length_append]
   omega
theorem li_set {l:List Int} {n:Nat} {x:Int} (h:l.length=31) (hn:n < 31):getI (l.set n x) (n:Int)=some x:=by
 refine gi_of (by omega) ?_
 rw [Int.toNat_natCast,List.getElem?_set,if_pos rfl,if_pos (by omega)]
theorem st_nat {α:Type} {l:List α} {x y:α}:(l++[x]).set l.length y=l++[y]:=by
 rw [List.set_append_right _ _ (Nat.le_refl _),Nat.sub_self];rfl
theorem book_step {n:Nat} {c:Int} {f m p o:List Int} (hn:n<=30) (hf:f.length=31) (hm:m.length=31) (hp:p.length=31) (ho:o.length<=10000) :
  F_huff_opened_L5 B (c,(n:Int),B++[(f,m,p,o)])=some (.inr ((bkStep n (c,f,m,p,o)).1,((n+1:Nat):Int),B++[(bkStep n (c,f,m,p,o)).2])):=by
 have hb:nnI (B.length:Int)=true:=decide_eq_true (by omega)
 have hr:decide (0<=(n:Int))=true:=decide_eq_true (by omega)
 have hr2:decide ((n:Int) < (31:Int))=true:=decide_eq_true (by omega)
 have hl:=order_loop (B:=B) (n:=(n:Int)) (f:=f.set n c) (m:=m) (p:=p.set n (o.length:Int)) 257 0 o rfl (by omega)
 have hj:F_huff_opened_J10 B c (n:Int) (B++[(f.set n c,m,p.set n (o.length:Int),o++filt (n:Int) 0 257)])=some (.inr ((bkStep n (c,f,m,p,o)).1,B++[(bkStep n (c,f,m,p,o)).2])):=by
  unfold F_huff_opened_J10 chk
  dsimp only
  have e1:=li_set (x:=(o.length:Int)) hp (show n < 31 by omega)
  have e2:=li_set (x:=IntKind.i64.wrap (((o++filt (n:Int) 0 257).length:Int) - (o.length:Int))) hm (show n < 31 by omega)
  simp only [hb,hr,hr2,Bool.and_self,cond_true,gi_new,Option.bind_some,e1,st_nat,Int.toNat_natCast,e2]
  rfl
 unfold F_huff_opened_L5
 dsimp only
 rw [decide_eq_true (show (n:Int)<=30 by omega),cond_true]
 refine (join_inr (s:=((bkStep n (c,f,m,p,o)).1,B++[(bkStep n (c,f,m,p,o)).2])) ?_).trans ?_
 ·unfold chk
  simp only [hb,hr,hr2,Bool.and_self,cond_true,gi_new,Option.bind_some,st_nat,Int.toNat_natCast]
  have hl0:loopC (F_huff_opened_L12 B (n:Int)) (0,B++[(f.set n c,m,p.set n (o.length:Int),o)])=some (.inr (B++[(f.set n c,m,p.set n (o.length:Int),o++filt (n:Int) 0 257)])):=hl
  exact (join_inr hl0).trans hj
 ·unfold F_huff_opened_J8
  dsimp only
  rw [w64 (by omega) (by omega)]
  rfl
theorem book_loop:∀ (j k:Nat),k+j=26->loopC (F_huff_opened_L5 B) ((bkN k).1,((5+k:Nat):Int),B++[(bkN k).2])=some (.inr (B++[(bkN 26).2]))
 | 0,k,h=>by
  have:k=26:=by omega
  subst this
  refine loop_inl ?_
  unfold F_huff_opened_L5
  dsimp only
  rw [show decide (((5+26:Nat):Int)<=30)=false from rfl,cond_false]
 | j+1,k,h=>by
  obtain ⟨h1,h2,h3,h4⟩:=bkN_len k
  exact loop_inr (book_step (n:=5+k) (c:=(bkN k).1) (by omega) h1 h2 h3 (Nat.le_trans h4 (by omega))) (book_loop j (k+1) (by omega))
noncomputable def bookC:Bk:=(bkN 26).2
theorem opened_eq:F_huff_opened B=some ((B.length:Int),B++[bookC]):=by
 unfold F_huff_opened
 have h:loopC (F_huff_opened_L5 B) (0,5,B++[(List.replicate 31 0,List.replicate 31 0,List.replicate 31 0,([]:List Int))])=some (.inr (B++[(bkN 26).2])):=book_loop (B:=B) 26 0 rfl
 exact (join_inr h).trans rfl
end
noncomputable def gz (l:List Int) (n:Nat):Int:=match l[n]? with | some x=>x | none=>-7
noncomputable def bookOk:Bool:=
 decide (gz bookC.1 0+gz bookC.2.1 0=0)&&(bookC.2.2.2.length==257)&&(bookC.2.2.2.all fun x=>decide (0<=x)&&decide (x<=256)) &&
 (List.range 31).all fun n=>decide (0<=gz bookC.1 n)&&decide (0<=gz bookC.2.1 n)&&decide (0<=gz bookC.2.2.1 n)&&decide (gz bookC.2.2.1 n+gz bookC.2.1 n<=257)&&decide (gz bookC.1 n+gz bookC.2.1 n<=1073741824) &&
  (cond (decide (n < 30)) (decide (gz bookC.1 (n+1)<=2*(gz bookC.1 n+gz bookC.2.1 n))) (decide (gz bookC.1 n+gz bookC.2.1 n=1073741824)))
theorem book_ok:bookOk=true:=by decide +kernel
theorem join_loop {S R:Type} {body:S->Option (R⊕S)} {a:Option (R⊕S)} {s:S} {r:R} (e:body s=a) (h:joinC a (loopC body)=some r):loopC body s=some r:=by
 subst e
 unfold joinC at h
 split at h
 ·cases h
 ·rename_i r' e
  cases h
  exact loop_inl e
 ·rename_i s' e
  exact loop_inr e h
theorem gz_some {l:List Int} {n:Nat} (h:0<=gz l n):getI l (n:Int)=some (gz l n):=by
 refine gi_of (by omega) ?_
 rw [Int.toNat_natCast]
 unfold gz at h ⊢
 cases hl:l[n]? with
 | none=>rw [hl] at h;exact absurd h (by decide)
 | some x=>rfl
theorem bk_at {n:Nat} (h:n<=30):∃ f c q:Int,getI bookC.1 (n:Int)=some f /\ getI bookC.2.1 (n:Int)=some c /\ getI bookC.2.2.1 (n:Int)=some q /\ f=gz bookC.1 n /\ c=gz bookC.2.1 n /\ 0<=f /\ 0<=c /\ 0<=q /\ q+c<=257 /\ f+c<=1073741824 /\ (n=30->f+c=1073741824) /\ (n < 30->gz bookC.1 (n+1)<=2*(f+c)):=by
 have hb:=book_ok
 unfold bookOk at hb
 simp only [Bool.and_eq_true,List.all_eq_true] at hb
 have h2:=hb.2 n (List.mem_range.2 (by omega))
 simp only [decide_eq_true_iff] at h2
 obtain ⟨⟨⟨⟨⟨a1,a2⟩,a3⟩,a4⟩,a5⟩,a6⟩:=h2
 refine ⟨_,_,_,gz_some a1,gz_some a2,gz_some a3,rfl,rfl,a1,a2,a3,a4,a5,fun e=>?_,fun e=>?_⟩
 ·rw [decide_eq_false (show ¬ n < 30 by omega),cond_false,decide_eq_true_iff] at a6
  exact a6
 ·rw [decide_eq_true e,cond_true,decide_eq_true_iff] at a6
  exact a6
theorem bk_zero:gz bookC.1 0+gz bookC.2.1 0=0:=by
 have hb:=book_ok
 unfold bookOk at hb
 simp only [Bool.and_eq_true,decide_eq_true_iff] at hb
 exact hb.1.1.1
theorem bk_order {j:Int} (h0:0<=j) (h1:j < 257):∃ x,getI bookC.2.2.2 j=some x:=by
 have hb:=book_ok
 unfold bookOk at hb
 simp only [Bool.and_eq_true] at hb
 have hl:bookC.2.2.2.length=257:=of_decide_eq_true hb.1.1.2
 obtain ⟨x,hx,_⟩:=gi_lt (l:=bookC.2.2.2) h0 (by omega)
 exact ⟨x,hx⟩
theorem p2_le:∀ n:Fin 31,(2:Int) ^ n.val<=1073741824:=by decide
def HInv (c:Int) (n:Nat):Prop:=n<=29 /\ 0<=c /\ c < 2 ^ n /\ gz bookC.1 n+gz bookC.2.1 n<=c
theorem hinv0:HInv 0 0:=⟨by omega,by omega,by decide,by rw [bk_zero];omega⟩
theorem w8:∀ n:Int,0<=n->n < 2 ^ 8->IntKind.u8.wrap n=n:=fun n h0 h1=>by
 rw [IntKind.wrap_u8]
 have:(2:Int) ^ 8=256:=by decide
 omega
theorem e8:(2:Int) ^ 8=256:=by decide
theorem e42:(2:Int) ^ 42=4398046511104:=by decide
theorem e40:(2:Int) ^ 40=1099511627776:=by decide
theorem w40:∀ n:Int,0<=n->n < 2 ^ 40->IntKind.i64.wrap n=n:=fun n h0 h1=>w64 (by omega) (by rw [e40] at h1;omega)
theorem bit_ok {x k:Int} (hx:0<=x /\ x < 256):∃ b:Int,(b=0 \/ b=1) /\ IntKind.i64.wrap (bits .and .u8 (Int.fdiv x (2 ^ (min (IntKind.i64.wrap (7 - (Int.tmod k 8))).toNat 8))) 1)=b:=by
 obtain ⟨m,hm⟩:∃ m:Nat,min (IntKind.i64.wrap (7 - (Int.tmod k 8))).toNat 8=m:=⟨_,rfl⟩
 rw [hm]
 have hp:0 < (2:Int) ^ m:=Int.pow_pos (by decide)
 have h0:0<=Int.fdiv x (2 ^ m):=by rw [Int.fdiv_eq_ediv_of_nonneg _ (by omega)];exact Int.ediv_nonneg hx.1 (by omega)
 have h1:Int.fdiv x (2 ^ m) < 256:=by
  rw [Int.fdiv_eq_ediv_of_nonneg _ (by omega)]
  have:=Int.ediv_le_self (a:=x) (2 ^ m) hx.1
  omega
 have e:=bits_mask .u8 8 (by decide) w8 1 (by decide) (Int.fdiv x (2 ^ m)) h0 (by rw [e8];exact h1)
 have e':bits .and .u8 (Int.fdiv x (2 ^ m)) 1=Int.fdiv x (2 ^ m) % 2:=e
 rw [e',w64 (by omega) (by omega)]
 exact ⟨_,by omega,rfl⟩
theorem or1 {x y:Int} (hx:0<=x) (hx1:x < 1099511627776) (hy:y=0 \/ y=1):bits .or .i64 (IntKind.i64.wrap (x*2 ^ 1)) y=2*x+y:=by
 have e1:(2:Int) ^ 1=2:=by decide
 have ew:∀ n:Int,0<=n->n < 2 ^ 42->IntKind.i64.wrap n=n:=fun n h0 h1=>w64 (by omega) (by rw [e42] at h1;omega)
 have h1:x*2 < (2:Int) ^ 42:=by rw [e42];omega
 have h2:y < (2:Int) ^ 1:=by rw [e1];omega
 have h3:y < (2:Int) ^ 42:=by rw [e42];omega
 have h4:x*2 % (2:Int) ^ 1=0:=by rw [e1];omega
 rw [e1,w64 (by omega) (by omega),bits_join .i64 42 (by decide) ew 1 (x*2) y (by omega) h4 h1 (by omega) h2 h3]
 omega
abbrev HY:=(List Int×Int)⊕(List Int×Int×Nat)
noncomputable def hyB (k:Nat) (p:Int) (B:List Bk):HY->(List Int×Int×List Bk)⊕(Nat×Int×List Int×Int×Int×Int×List Bk)
 | .inl z=>.inl (z.1,z.2,B)
 | .inr z=>.inr (1,(p,z.1,z.2.1,(z.2.2:Int),((k+1:Nat):Int),B))
theorem huff_step {l:List Int} {i2:Int} {k n:Nat} {c:Int} {o:List Int} (hb:Byt l) (hl:l.length<=10000000) (hk:k < 8*l.length) (hi:HInv c n) (ho:o.length<=99999999) :
  ∃ y:HY,(∀ (B:List Bk) (p:Int),getI B p=some bookC->F_huff_Decode_G1_1 l i2 (p,o,c,(n:Int),(k:Int),B)=some (hyB k p B y)) /\ (match y with | .inl z=>z.1.length<=o.length | .inr z=>HInv z.2.1 z.2.2 /\ z.1.length<=o.length+1):=by
 obtain ⟨hn,hc0,hc1,hc2⟩:=hi
 obtain ⟨x,hx,hxm⟩:=gi_lt (l:=l) (j:=((k / 8:Nat):Int)) (by omega) (by omega)
 obtain ⟨b,hb01,hbe⟩:=bit_ok (k:=(k:Int)) (hb x hxm)
 obtain ⟨f0,ct0,q0,_,_,_,g1,g2,_,_,_,_,_,_,g3⟩:=bk_at (n:=n) (by omega)
 obtain ⟨f,ct,q,e1,e2,e3,e4,e5,hf,hct,hq,hqc,hfc,h30,_⟩:=bk_at (n:=n+1) (by omega)
 have hlow:f<=2*c:=by
  have:=g3 (by omega)
  rw [e4]
  omega
 have hpow:(2:Int) ^ (n+1)=2*2 ^ n:=by rw [Int.pow_succ];omega
 have hp2:=p2_le ⟨n+1,by omega⟩
 have hp2':(2:Int) ^ (n+1)<=1073741824:=hp2
 have hor:bits .or .i64 (IntKind.i64.wrap (c*2 ^ 1)) b=2*c+b:=or1 hc0 (by omega) hb01
 have hix:IntKind.i64.wrap (Int.tdiv (k:Int) 8)=((k / 8:Nat):Int):=by
  rw [Int.tdiv_eq_ediv_of_nonneg (by omega),w64 (by omega) (by omega)];omega
 have h7:decide (0<=IntKind.i64.wrap (7 - Int.tmod (k:Int) 8))=true:=by
  rw [Int.tmod_eq_emod_of_nonneg (by omega),w64 (by omega) (by omega)]
  exact decide_eq_true (by omega)
 have hn1:IntKind.i64.wrap ((n:Int)+1)=((n+1:Nat):Int):=by rw [w64 (by omega) (by omega)];omega
 have hk1:IntKind.i64.wrap ((k:Int)+1)=((k+1:Nat):Int):=by rw [w64 (by omega) (by omega)];omega
 have hend:((k:Int)==IntKind.i64.wrap (8*(l.length:Int)))=false:=by
  rw [w64 (by omega) (by omega)]
  exact beq_eq_false_iff_ne.2 (by omega)
 have hr1:decide (0<=((n+1:Nat):Int))=true:=decide_eq_true (by omega)
 have hr2:decide (((n+1:Nat):Int) < 31)=true:=decide_eq_true (by omega)
 have hs1:IntKind.i64.wrap (2*c+b - f)=2*c+b - f:=w64 (by omega) (by omega)
 by_cases hit:2*c+b - f >= ct
 ·refine ⟨.inr (o,2*c+b,n+1),fun B p hB=>?_,?_⟩
  ·have hp:=gi_nn hB
   unfold F_huff_Decode_G1_1 chk
   dsimp only
   simp only [hend,cond_false,hix,hx,Option.bind_some,h7,hn1,hr1,hr2,Bool.and_self,cond_true,hp,hB,e1,e2,hbe,hor,hs1,decide_eq_true hit,hk1]
   rfl
  ·refine ⟨⟨?_,show 0<=2*c+b by omega,show 2*c+b < 2 ^ (n+1) by omega,show gz bookC.1 (n+1)+gz bookC.2.1 (n+1)<=2*c+b by omega⟩,by simp⟩
   show n+1<=29
   by_cases h:n+1=30
   ·have:=h30 h
    omega
   ·omega
 ·have hnl:decide (2*c+b < f)=false:=decide_eq_false (by omega)
  have hw:IntKind.i64.wrap (IntKind.i64.wrap (q+(2*c+b)) - f)=q+(2*c+b) - f:=by rw [w64 (x:=q+(2*c+b)) (by omega) (by omega),w64 (by omega) (by omega)]
  obtain ⟨sy,hsy⟩:=bk_order (j:=q+(2*c+b) - f) (by omega) (by omega)
  cases h256:(sy==256) with
  | true=>
   refine ⟨.inl ([],2),fun B p hB=>?_,by simp⟩
   have hp:=gi_nn hB
   unfold F_huff_Decode_G1_1 chk
   dsimp only
   simp only [hend,cond_false,hix,hx,Option.bind_some,h7,hn1,hr1,hr2,Bool.and_self,cond_true,hp,hB,e1,e2,e3,hbe,hor,hs1,decide_eq_false hit,hnl,hw,hsy,h256]
   rfl
  | false=>
   cases hm:decide ((o.length:Int) >= i2) with
   | true=>
    refine ⟨.inl ([],3),fun B p hB=>?_,by simp⟩
    have hp:=gi_nn hB
    unfold F_huff_Decode_G1_1 chk
    dsimp only
    simp only [hend,cond_false,hix,hx,Option.bind_some,h7,hn1,hr1,hr2,Bool.and_self,cond_true,hp,hB,e1,e2,e3,hbe,hor,hs1,decide_eq_false hit,hnl,hw,hsy,h256,hm]
    rfl
   | false=>
    refine ⟨.inr (o++[IntKind.u8.wrap sy],0,0),fun B p hB=>?_,⟨hinv0,by simp⟩⟩
    have hp:=gi_nn hB
    have hck:=ck1 (n:=o.length) (m:=([IntKind.u8.wrap sy]:List Int).length) (by simp;omega)
    unfold F_huff_Decode_G1_1 chk
    dsimp only
    simp only [hend,cond_false,hix,hx,Option.bind_some,h7,hn1,hr1,hr2,Bool.and_self,cond_true,hp,hB,e1,e2,e3,hbe,hor,hs1,decide_eq_false hit,hnl,hw,hsy,h256,hm,hck,hk1]
    rfl
theorem huff_loop {l:List Int} {i2:Int} (hb:Byt l) (hl:l.length<=10000000):∀ (m k n:Nat) (c:Int) (o:List Int),m+k=8*l.length->HInv c n->o.length<=k ->
    ∃ (out:List Int) (e:Int),(∀ (B:List Bk) (p:Int),getI B p=some bookC->joinC (F_huff_Decode_G1_1 l i2 (p,o,c,(n:Int),(k:Int),B)) (loopC (F_huff_Decode_G1 l i2))=some (out,e,B)) /\ out.length<=8*l.length
  | 0,k,n,c,o,hm,hi,ho=>by
    have hend:((k:Int)==IntKind.i64.wrap (8*(l.length:Int)))=true:=by
      rw [w64 (by omega) (by omega)]
      exact beq_iff_eq.2 (by omega)
    have h1:∀ (B:List Bk) (p:Int),F_huff_Decode_G1_1 l i2 (p,o,c,(n:Int),(k:Int),B)=some (.inr (0,(p,o,c,(n:Int),(k:Int),B))):=by
      intro B p
      unfold F_huff_Decode_G1_1
      dsimp only
      rw [hend,cond_true]
    have h2:∃ (out:List Int) (e:Int),(∀ (B:List Bk) (p:Int),F_huff_Decode_G1 l i2 (0,(p,o,c,(n:Int),(k:Int),B))=some (.inl (out,e,B))) /\ out.length<=8*l.length:=by
      have hg:∀ s,F_huff_Decode_G1 l i2 (0,s)=F_huff_Decode_G1_0 s:=fun s=>rfl
      cases h7:decide ((n:Int) > 7) with
      | true=>
        refine ⟨[],2,fun B p=>?_,by simp⟩
        rw [hg]
        unfold F_huff_Decode_G1_0
        dsimp only
        rw [h7,cond_true]
      | false=>
        have hd:decide (0<=(n:Int))=true:=decide_eq_true (by omega)
        cases hc:(c != (IntKind.i64.wrap ((IntKind.i64.wrap (1*2 ^ (min ((n:Int)).toNat 64))) - 1))) with
        | true=>
          refine ⟨[],2,fun B p=>?_,by simp⟩
          rw [hg]
          unfold F_huff_Decode_G1_0 chk
          dsimp only
          rw [h7,cond_false,hd,cond_true,hc,cond_true]
        | false=>
          refine ⟨o,0,fun B p=>?_,by omega⟩
          rw [hg]
          unfold F_huff_Decode_G1_0 chk
          dsimp only
          rw [h7,cond_false,hd,cond_true,hc,cond_false]
    obtain ⟨out,e,h,hlen⟩:=h2
    refine ⟨out,e,fun B p _=>?_,hlen⟩
    rw [h1]
    exact loop_inl (h B p)
  | m+1,k,n,c,o,hm,hi,ho=>by
    obtain ⟨y,hy,hz⟩:=huff_step (i2:=i2) (k:=k) (n:=n) (c:=c) (o:=o) hb hl (by omega) hi (by omega)
    cases y with
    | inl z=>
      refine ⟨z.1, z.2, fun B p hB => ?_, by have h : z.1.length <= o.length := hz
                                             omega⟩
      rw [hy B p hB]
      rfl
    | inr z=>
      obtain ⟨hz1,hz2⟩:HInv z.2.1 z.2.2 /\ z.1.length<=o.length+1:=hz
      obtain ⟨out,e,h,hlen⟩:=huff_loop (i2:=i2) hb hl m (k+1) z.2.2 z.2.1 z.1 (by omega) hz1 (by omega)
      refine ⟨out,e,fun B p hB=>?_,hlen⟩
      rw [hy B p hB]
      exact join_loop rfl (h B p hB)
theorem huff_dec {l:List Int} {i2:Int} (hb:Byt l) (hl:l.length<=10000000):∃ (out:List Int) (e:Int),(∀ B:List Bk,F_huff_Decode l i2 B=some (out,e,B++[bookC])) /\ out.length<=8*l.length:=by
 obtain ⟨out,e,h,hlen⟩:=huff_loop (i2:=i2) hb hl (8*l.length) 0 0 0 [] rfl hinv0 (Nat.le_refl _)
 refine ⟨out,e,fun B=>?_,hlen⟩
 have h0:F_huff_Decode l i2 B=joinC ((F_huff_opened B).bind fun x4=>F_huff_Decode_G1_1 l i2 (x4.1,[],0,0,0,x4.2)) (loopC (F_huff_Decode_G1 l i2)):=rfl
 rw [h0,opened_eq]
 exact h (B++[bookC]) (B.length:Int) gi_new
abbrev Fd:=List Int×List Int×Bool
abbrev Tb:=List Fd×Int×Int
theorem and127:∀ q:Fin 256,bits .and .u8 (q.val:Int) 127=((q.val % 128:Nat):Int):=by decide +kernel
theorem and127' {x:Int} (hx:0<=x /\ x < 256):∃ y,bits .and .u8 x 127=y /\ 0<=y /\ y < 128:=by
 have h:=and127 ⟨x.toNat,by omega⟩
 have e:((x.toNat:Nat):Int)=x:=by omega
 simp only [e] at h
 exact ⟨_,h,by omega,by omega⟩
theorem pw_ok:∀ i:Fin 6,1<=i.val->(1:Int)<=2 ^ (min ((IntKind.i64.wrap (7*(IntKind.i64.wrap ((i.val:Int) - 1))))).toNat 64) /\ (2:Int) ^ (min ((IntKind.i64.wrap (7*(IntKind.i64.wrap ((i.val:Int) - 1))))).toNat 64)<=268435456 /\ decide (0<=(IntKind.i64.wrap (7*(IntKind.i64.wrap ((i.val:Int) - 1)))))=true:=by decide +kernel
def PintOk (l:List Int) (z:Int×Int×Int):Prop:=z.2.2=0->0<=z.1 /\ z.1<=2147483647 /\ 1<=z.2.1 /\ z.2.1<=(l.length:Int)
theorem pok_err {l:List Int} {a b e:Int} (h:e≠0):PintOk l (a,b,e):=fun h2=>absurd h2 h
def pinB (i:Nat):(Int×Int×Int)⊕Int->(Int×Int×Int)⊕(Nat×Int×Int)
 | .inl z=>.inl z
 | .inr v=>.inr (0,v,((i+1:Nat):Int))
theorem pint_step {l:List Int} (hb:Byt l) (hl:l.length<=100000000) {v:Int} {i:Nat} (h1:1<=i) (h5:i<=5) (hil:i<=l.length) (hv:0<=v) (hv2:v<=2147483647) :
  ∃ y,F_pint_Get_G1_0 l (v,(i:Int))=some (pinB i y) /\ (match y with | .inl z=>PintOk l z | .inr v'=>0<=v' /\ v'<=2147483647 /\ i+1<=5 /\ i+1<=l.length):=by
 have hi1:IntKind.i64.wrap ((i:Int)+1)=((i+1:Nat):Int):=by rw [w64 (by omega) (by omega)];omega
 have hi2:IntKind.i64.wrap (((i+1:Nat):Int) - 1)=(i:Int):=by rw [w64 (by omega) (by omega)];omega
 cases he:((i:Int)==(l.length:Int)) with
 | true=>
  refine ⟨.inl (0,0,4),?_,pok_err (by decide)⟩
  unfold F_pint_Get_G1_0
  dsimp only
  rw [he,cond_true]
  rfl
 | false=>
  have hne:(i:Int)≠(l.length:Int):=beq_eq_false_iff_ne.1 he
  obtain ⟨b,hg,hm⟩:=gi_lt (l:=l) (j:=(i:Int)) (by omega) (by omega)
  have hbb:=hb b hm
  obtain ⟨y,hy,hy0,hy1⟩:=and127' hbb
  obtain ⟨P1,P2,P3⟩:=pw_ok ⟨i,by omega⟩ h1
  obtain ⟨P,hP⟩:∃ P:Int,(2:Int) ^ (min ((IntKind.i64.wrap (7*(IntKind.i64.wrap ((i:Int) - 1))))).toNat 64)=P:=⟨_,rfl⟩
  have P1':1<=P:=by rw [<-hP];exact P1
  have P2':P<=268435456:=by rw [<-hP];exact P2
  have P3':decide (0<=(IntKind.i64.wrap (7*(IntKind.i64.wrap ((i:Int) - 1)))))=true:=P3
  have hyP0:0<=y*P:=Int.mul_nonneg hy0 (by omega)
  have hyP1:y*P<=128*268435456:=Int.mul_le_mul (by omega) P2' (by omega) (by omega)
  obtain ⟨u,hu⟩:∃ u:Int,v+y*P=u:=⟨_,rfl⟩
  have hw:IntKind.i64.wrap (v+IntKind.i64.wrap (IntKind.i64.wrap y*P))=u:=by
   rw [w64 (x:=y) (by omega) (by omega),w64 (x:=y*P) (by omega) (by omega),w64 (by omega) (by omega),hu]
  have red:F_pint_Get_G1_0 l (v,(i:Int))=cond (decide (u > 2147483647)) (some (.inl (0,0,1))) (cond (((i+1:Nat):Int)==6) (cond (decide (b >= 128)) (some (.inl (0,0,1))) (cond (decide (b >= 128)) (some (.inr (0,u,((i+1:Nat):Int)))) (some (.inl (u,((i+1:Nat):Int),0))))) (cond (decide (b >= 128)) (some (.inr (0,u,((i+1:Nat):Int)))) (some (.inl (u,((i+1:Nat):Int),0))))):=by
   unfold F_pint_Get_G1_0 chk
   dsimp only
   simp only [he,cond_false,hg,Option.bind_some,P3',cond_true,hy,hP,hw,hi1,hi2]
  rw [red]
  cases h31:decide (u > 2147483647) with
  | true=>exact ⟨.inl (0,0,1),rfl,pok_err (by decide)⟩
  | false=>
   have h31':¬ u > 2147483647:=of_decide_eq_false h31
   cases h6:(((i+1:Nat):Int)==6) with
   | true=>
    cases hb8:decide (b >= 128) with
    | true=>exact ⟨.inl (0,0,1),rfl,pok_err (by decide)⟩
    | false=>exact ⟨.inl (u,((i+1:Nat):Int),0),rfl,fun _=>⟨show 0<=u by omega,show u<=2147483647 by omega,show (1:Int)<=((i+1:Nat):Int) by omega,show ((i+1:Nat):Int)<=l.length by omega⟩⟩
   | false=>
    have h6':((i+1:Nat):Int)≠6:=beq_eq_false_iff_ne.1 h6
    cases hb8:decide (b >= 128) with
    | true=>exact ⟨.inr u,rfl,by omega,by omega,by omega,by omega⟩
    | false=>exact ⟨.inl (u,((i+1:Nat):Int),0),rfl,fun _=>⟨show 0<=u by omega,show u<=2147483647 by omega,show (1:Int)<=((i+1:Nat):Int) by omega,show ((i+1:Nat):Int)<=l.length by omega⟩⟩
theorem pint_loop {l:List Int} (hb:Byt l) (hl:l.length<=100000000):∀ (m i:Nat) (v:Int),m+i=6->1<=i->i<=5->i<=l.length->0<=v->v<=2147483647 -> ∃ z,joinC (F_pint_Get_G1_0 l (v,(i:Int))) (loopC (F_pint_Get_G1 l))=some z /\ PintOk l z
 | 0,i,v,hm,h1,h5,hil,hv,hv2=>by omega
 | m+1,i,v,hm,h1,h5,hil,hv,hv2=>by
  obtain ⟨y,hy,hz⟩:=pint_step hb hl h1 h5 hil hv hv2
  rw [hy]
  cases y with
  | inl z=>exact ⟨z,rfl,hz⟩
  | inr v'=>
   obtain ⟨a1,a2,a3,a4⟩:0<=v' /\ v'<=2147483647 /\ i+1<=5 /\ i+1<=l.length:=hz
   obtain ⟨z,hz,hz2⟩:=pint_loop hb hl m (i+1) v' (by omega) (by omega) a3 a4 a1 a2
   exact ⟨z,join_loop rfl hz,hz2⟩
theorem ones_ok:∀ w:Fin 9,1<=w.val->F_pint_ones (w.val:Int)=some (2 ^ w.val - 1):=by decide +kernel
theorem ones_nz:∀ w:Fin 9,1<=w.val->((2:Int) ^ w.val - 1==0)=false /\ (2:Int) ^ w.val<=256 /\ (1:Int)<=2 ^ w.val:=by decide +kernel
theorem pint_ok {l:List Int} (hb:Byt l) (hl:l.length<=100000000) {w:Nat} (h1:1<=w) (h8:w<=8):∃ z,F_pint_Get l (w:Int)=some z /\ PintOk l z:=by
 have ho:F_pint_ones (w:Int)=some (2 ^ w - 1):=ones_ok ⟨w,by omega⟩ h1
 obtain ⟨hnz,hp256,hp1⟩:((2:Int) ^ w - 1==0)=false /\ (2:Int) ^ w<=256 /\ (1:Int)<=2 ^ w:=ones_nz ⟨w,by omega⟩ h1
 have h0:F_pint_Get l (w:Int)=joinC ((F_pint_ones (w:Int)).bind fun i3=>cond (i3==0) (some (.inl (0,0,1))) (cond ((l.length:Int)==0) (some (.inl (0,0,4))) ((getI l 0).bind fun i4=>cond (decide ((bits .and .i64 (IntKind.i64.wrap i4) i3) < i3)) (some (.inl ((bits .and .i64 (IntKind.i64.wrap i4) i3),1,0))) (F_pint_Get_G1_0 l ((bits .and .i64 (IntKind.i64.wrap i4) i3),1))))) (loopC (F_pint_Get_G1 l)):=rfl
 rw [h0,ho,Option.bind_some,hnz,cond_false]
 cases hl0:((l.length:Int)==0) with
 | true=>exact ⟨(0,0,4),rfl,pok_err (by decide)⟩
 | false=>
  have hl0':(l.length:Int)≠0:=beq_eq_false_iff_ne.1 hl0
  obtain ⟨b,hg,hm⟩:=gi_lt (l:=l) (j:=0) (by omega) (by omega)
  have hbb:=hb b hm
  rw [cond_false,hg,Option.bind_some]
  have e:bits .and .i64 (IntKind.i64.wrap b) (2 ^ w - 1)=b % 2 ^ w:=by
   rw [w64 (by omega) (by omega)]
   exact bits_mask .i64 40 (by decide) w40 w (by omega) b hbb.1 (by rw [e40];omega)
  have hq0:0<=b % 2 ^ w:=Int.emod_nonneg _ (by omega)
  have hq1:b % 2 ^ w < 2 ^ w:=Int.emod_lt_of_pos _ (by omega)
  rw [e]
  cases hlt:decide (b % 2 ^ w < 2 ^ w - 1) with
  | true=>exact ⟨(b % 2 ^ w,1,0),rfl,fun _=>⟨hq0,show b % 2 ^ w<=2147483647 by omega,show (1:Int)<=1 by omega,show (1:Int)<=l.length by omega⟩⟩
  | false=>
   rw [cond_false]
   exact pint_loop hb hl 5 1 (b % 2 ^ w) (by omega) (by omega) (by omega) (by omega) hq0 (by omega)
theorem number_ok {l:List Int} (hb:Byt l) (hl:l.length<=100000000) {w:Nat} (h1:1<=w) (h8:w<=8):∃ (v:Int) (ok:Bool) (k:Nat),(∀ p a b acc,F_unpack_block_number l p a b acc (w:Int)=some (v,ok,l.drop k,p,a,b,acc)) /\ k<=l.length /\ (ok=true->1<=k /\ 0<=v /\ v<=2147483647):=by
 obtain ⟨z,hz,hok⟩:=pint_ok hb hl h1 h8
 cases he:(z.2.2 != 0) with
 | true=>
  refine ⟨0,false,0,fun p a b acc=>?_,by omega,fun h=>by cases h⟩
  unfold F_unpack_block_number
  rw [hz,Option.bind_some,he,cond_true]
  rfl
 | false=>
  have h0:z.2.2=0:=bne_eq_false_iff_eq.1 he
  obtain ⟨a1,a2,a3,a4⟩:=hok h0
  refine ⟨z.1,true,z.2.1.toNat,fun p a b acc=>?_,by omega,fun _=>⟨by omega,a1,a2⟩⟩
  unfold F_unpack_block_number
  rw [hz,Option.bind_some,he,cond_false,cut_tail (by omega) a4,Option.bind_some]
theorem stat_all:∀ i:Fin 62,(match F_stat_Get (i.val:Int) with | some x=>decide (x.1.length+x.2.1.length<=100) | none=>false)=true:=by decide +kernel
theorem stat_ok (i:Int):∃ x,F_stat_Get i=some x /\ x.1.length+x.2.1.length<=100:=by
 by_cases h:1<=i /\ i<=61
 ·have h2:=stat_all ⟨i.toNat,by omega⟩
  have e:((i.toNat:Nat):Int)=i:=by omega
  simp only [e] at h2
  cases hx:F_stat_Get i with
  | none=>rw [hx] at h2;cases h2
  | some x=>rw [hx] at h2;exact ⟨x,rfl,of_decide_eq_true h2⟩
 ·refine ⟨([],[],false,false),?_,by decide⟩
  unfold F_stat_Get
  have:(decide (i < 1)||decide (i > 61))=true:=by
   rw [Bool.or_eq_true,decide_eq_true_iff,decide_eq_true_iff];omega
  rw [this,cond_true]
theorem text_ok {l:List Int} (hb:Byt l) (hl:l.length<=10000000):∃ (s:List Int) (ok:Bool) (k j:Nat),(∀ p a b acc B,F_unpack_block_text l p a b acc B=some (s,ok,l.drop k,p,a,b,acc,B++List.replicate j bookC)) /\ k<=l.length /\ s.length<=131072 /\ (ok=true->1<=k):=by
 obtain ⟨v,ok,k,hn,hk,hv⟩:=number_ok hb (by omega) (w:=7) (by omega) (by omega)
 have hn':∀ p a b acc,F_unpack_block_number l p a b acc 7=some (v,ok,l.drop k,p,a,b,acc):=hn
 cases hc:((!ok)||decide (v > 16384)) with
 | true=>
  refine ⟨[],false,k,0,fun p a b acc B=>?_,hk,by simp,fun h=>by cases h⟩
  unfold F_unpack_block_text
  cases hp:decide ((l.length:Int) > 0) with
  | true=>
   obtain ⟨x,hx,_⟩:=gi_lt (l:=l) (j:=0) (by omega) (by have:=of_decide_eq_true hp;omega)
   simp only [cond_true,hx,Option.bind_some,hn',hc,List.replicate_zero,List.append_nil]
  | false=>simp only [cond_false,Option.bind_some,hn',hc,cond_true,List.replicate_zero,List.append_nil]
 | false=>
  rw [Bool.or_eq_false_iff] at hc
  have hok:ok=true:=by cases ok with
   | true=>rfl
   | false=>exact absurd hc.1 (by decide)
  subst hok
  obtain ⟨k1,v0,v1⟩:=hv rfl
  have hv16:¬ v > 16384:=of_decide_eq_false hc.2
  have hc':((!true)||decide (v > 16384))=false:=by rw [hc.2];rfl
  obtain ⟨x,hx,hxm⟩:=gi_lt (l:=l) (j:=0) (by omega) (by omega)
  have hp:decide ((l.length:Int) > 0)=true:=decide_eq_true (by omega)
  cases hlen:decide (v > ((l.drop k).length:Int)) with
  | true=>
   refine ⟨[],false,k,0,fun p a b acc B=>?_,hk,by simp,fun h=>by cases h⟩
   unfold F_unpack_block_text
   simp only [hp,cond_true,hx,Option.bind_some,hn',hc',cond_false,hlen,List.replicate_zero,List.append_nil]
  | false=>
   have hlen':¬ v > ((l.drop k).length:Int):=of_decide_eq_false hlen
   have hlen2:(l.drop k).length=l.length - k:=List.length_drop
   have c1:=cut_head (l:=l.drop k) v0 (by omega)
   have c2:=cut_tail (l:=l.drop k) v0 (by omega)
   rw [List.drop_drop] at c2
   have htl:((l.drop k).take v.toNat).length<=16384:=by rw [List.length_take];omega
   cases hh:decide ((bits .and .u8 x 128) > 0) with
   | true=>
    obtain ⟨out,e,hd,hol⟩:=huff_dec (l:=(l.drop k).take v.toNat) (i2:=16384) (hb.drop.take) (by omega)
    cases he:(e != 0) with
    | true=>
     refine ⟨[],false,k+v.toNat,1,fun p a b acc B=>?_,by omega,by simp,fun h=>by cases h⟩
     unfold F_unpack_block_text
     simp only [hp,cond_true,hx,Option.bind_some,hn',hc',cond_false,hlen,c1,c2,hh,hd,he]
     rfl
    | false=>
     refine ⟨out,true,k+v.toNat,1,fun p a b acc B=>?_,by omega,by omega,fun _=>by omega⟩
     unfold F_unpack_block_text
     simp only [hp,cond_true,hx,Option.bind_some,hn',hc',cond_false,hlen,c1,c2,hh,hd,he]
     rfl
   | false=>
    refine ⟨(l.drop k).take v.toNat,true,k+v.toNat,0,fun p a b acc B=>?_,by omega,by omega,fun _=>by omega⟩
    unfold F_unpack_block_text
    simp only [hp,cond_true,hx,Option.bind_some,hn',hc',cond_false,hlen,c1,c2,hh,List.replicate_zero,List.append_nil]
def fsz (f:Fd):Int:=(f.1.length:Int)+(f.2.1.length:Int)+32
def fsum:List Fd->Int
 | []=>0
 | f::r=>fsz f+fsum r
theorem fsum_app (a b:List Fd):fsum (a++b)=fsum a+fsum b:=by
 induction a with
 | nil=>show fsum b=0+fsum b;omega
 | cons f r ih=>show fsz f+fsum (r++b)=fsz f+fsum r+fsum b;rw [ih];omega
theorem fsum_len (l:List Fd):32*(l.length:Int)<=fsum l:=by
 induction l with
 | nil=>exact Int.le_refl _
 | cons f r ih=>
  show 32*((r.length+1:Nat):Int)<=fsz f+fsum r
  unfold fsz
  omega
theorem fsum_mem {l:List Fd} {f:Fd} (h:f∈l):fsz f<=fsum l:=by
 induction l with
 | nil=>cases h
 | cons g r ih=>
  show fsz f<=fsz g+fsum r
  have hr:=fsum_len r
  rcases List.mem_cons.1 h with h | h
  ·subst h;omega
  ·have:=ih h
   unfold fsz at this ⊢
   omega
theorem fsum_drop (l:List Fd) (k:Nat):fsum (l.drop k)<=fsum l:=by
 have h:fsum l=fsum (l.take k)+fsum (l.drop k):=by rw [<-fsum_app,List.take_append_drop]
 have:=fsum_len (l.take k)
 omega
def TabOk (t:Tb):Prop:=t.2.1=fsum t.1 /\ fsum t.1<=t.2.2 /\ t.2.2<=4096
theorem TabOk.len {t:Tb} (h:TabOk t):t.1.length<=128:=by
 have:=fsum_len t.1
 have h2:=h.2.1
 have h3:=h.2.2
 omega
theorem TabOk.mem {t:Tb} (h:TabOk t) {f:Fd} (hf:f∈t.1):f.1.length+f.2.1.length<=4096:=by
 have:=fsum_mem hf
 have h2:=h.2.1
 have h3:=h.2.2
 unfold fsz at this
 omega
theorem size_eq {a b:List Int} {c:Bool} (ha:a.length<=100000000) (hb:b.length<=100000000):F_stat_Size a b c=some ((a.length:Int)+(b.length:Int)+32):=by
 unfold F_stat_Size
 rw [w64 (x:=(a.length:Int)+(b.length:Int)) (by omega) (by omega),w64 (by omega) (by omega)]
theorem eqI_self (p:Int):eqI p p=true:=beq_self_eq_true _
section
variable {T : List Tb} {p : Int}
theorem shr_loop {rows : List Fd} {n m : Int} (hs : fsum rows <= 100000) : ∀ (j i : Nat), i + j = rows.length -> ∃ k : Nat, k <= rows.length /\ (fsum (rows.drop k) <= n \/ k = rows.length) /\
      ∀ (T:List Tb) (p:Int),getI T p=some (rows,fsum (rows.drop i),m)->loopC (F_dyn_Table_shrinks_L2 p n) ((i:Int),T)=some (.inr ((k:Int),T.set p.toNat (rows,fsum (rows.drop k),m)))
  | 0,i,hi=>by
    have hi':i=rows.length:=by omega
    refine ⟨i,by omega,.inr hi',fun T p hT=>loop_inl ?_⟩
    have hp:=gi_nn hT
    unfold F_dyn_Table_shrinks_L2 chk
    dsimp only
    rw [hp,cond_true,hT,Option.bind_some]
    dsimp only
    rw [decide_eq_false (by omega),cond_false,st_same hT]
  | j+1,i,hi=>by
    have hlt:i < rows.length:=by omega
    cases hc:decide (fsum (rows.drop i) > n) with
    | false=>
      have hc':¬ fsum (rows.drop i) > n:=of_decide_eq_false hc
      refine ⟨i,by omega,.inl (by omega),fun T p hT=>loop_inl ?_⟩
      have hp:=gi_nn hT
      unfold F_dyn_Table_shrinks_L2 chk
      dsimp only
      simp only [hp,cond_true,hT,Option.bind_some,decide_eq_true (show (i:Int) < (rows.length:Int) by omega),hc,cond_false,st_same hT]
    | true=>
      obtain ⟨k,hk1,hk2,hk⟩:=shr_loop (n:=n) (m:=m) hs j (i+1) (by omega)
      refine ⟨k,hk1,hk2,fun T p hT=>?_⟩
      have hp:=gi_nn hT
      have hg:getI rows (i:Int)=some rows[i]:=gi_of (by omega) (by rw [Int.toNat_natCast];exact List.getElem?_eq_getElem hlt)
      have hd:rows.drop i=rows[i]::rows.drop (i+1):=List.drop_eq_getElem_cons hlt
      have hfs:fsum (rows.drop i)=fsz rows[i]+fsum (rows.drop (i+1)):=by rw [hd];rfl
      have hle:=fsum_drop rows i
      have hl1:=fsum_len (rows.drop (i+1))
      have hfz:fsz rows[i]=(rows[i].1.length:Int)+(rows[i].2.1.length:Int)+32:=rfl
      have hsz:F_stat_Size rows[i].1 rows[i].2.1 rows[i].2.2=some (fsz rows[i]):=size_eq (by omega) (by omega)
      have hw:IntKind.i64.wrap (fsum (rows.drop i) - fsz rows[i])=fsum (rows.drop (i+1)):=by rw [w64 (by omega) (by omega)];omega
      have hw2:IntKind.i64.wrap ((i:Int)+1)=((i+1:Nat):Int):=by
        have:=fsum_len rows
        rw [w64 (by omega) (by omega)];omega
      have hT2:getI (T.set p.toNat (rows,fsum (rows.drop (i+1)),m)) p=some (rows,fsum (rows.drop (i+1)),m):=gi_set hT
      have:=hk _ p hT2
      rw [st_two] at this
      refine loop_inr (s':=(((i+1:Nat):Int),T.set p.toNat (rows,fsum (rows.drop (i+1)),m))) ?_ this
      unfold F_dyn_Table_shrinks_L2 chk
      dsimp only
      simp only [hp,cond_true,hT,Option.bind_some,decide_eq_true (show (i:Int) < (rows.length:Int) by omega),hc,hg,hsz,hw,hw2]
theorem shr_ok {rows : List Fd} {m : Int} (n : Int) (hs : fsum rows <= 100000) : ∃ k : Nat, k <= rows.length /\ (fsum (rows.drop k) <= n \/ k = rows.length) /\
      ∀ (T:List Tb) (p:Int),getI T p=some (rows,fsum rows,m)->F_dyn_Table_shrinks p n T=some (T.set p.toNat (rows.drop k,fsum (rows.drop k),m)):=by
  obtain ⟨k,hk1,hk2,hk⟩:=shr_loop (n:=n) (m:=m) hs rows.length 0 (by omega)
  refine ⟨k,hk1,hk2,fun T p hT=>?_⟩
  have h:=hk T p hT
  have hp:=gi_nn hT
  unfold F_dyn_Table_shrinks
  refine (join_inr h).trans ?_
  have hT2:getI (T.set p.toNat (rows,fsum (rows.drop k),m)) p=some (rows,fsum (rows.drop k),m):=gi_set hT
  have hc:=cut_tail (l:=rows) (a:=(k:Int)) (by omega) (by omega)
  rw [Int.toNat_natCast] at hc
  unfold F_dyn_Table_shrinks_J1 chk
  dsimp only
  simp only [hp,cond_true,hT2,Option.bind_some,hc,eqI_self,st_two]
theorem cloneF_eq {l:List Fd} (h:l.length<=1000000):F_slices_Clone_stat_Field_stat_Field l=some l:=by
 unfold F_slices_Clone_stat_Field_stat_Field
 rw [Nat.ble_eq_true_of_le h,cond_true]
theorem limit_ok {t:Tb} (ht:TabOk t) (n:Int):∃ (e:Int) (t':Tb),TabOk t' /\ ∀ (T:List Tb) (p:Int),getI T p=some t->F_dyn_Table_Limit p n T=some (e,T.set p.toNat t'):=by
 obtain ⟨rows,size,most⟩:=t
 obtain ⟨h1,h2,h3⟩:=ht
 have h1':size=fsum rows:=h1
 have h2':fsum rows<=most:=h2
 have h3':most<=4096:=h3
 subst h1'
 cases hc:(decide (n < 0)||decide (n > 4096)) with
 | true=>
  refine ⟨1,_,⟨h1,h2,h3⟩,fun T p hT=>?_⟩
  unfold F_dyn_Table_Limit
  rw [hc,cond_true,st_same hT]
 | false=>
  rw [Bool.or_eq_false_iff] at hc
  have n0:¬ n < 0:=of_decide_eq_false hc.1
  have n1:¬ n > 4096:=of_decide_eq_false hc.2
  obtain ⟨k,hk1,hk2,hk⟩:=shr_ok (rows:=rows) (m:=n) n (by omega)
  have hle:fsum (rows.drop k)<=n:=by
   rcases hk2 with h | h
   ·exact h
   ·rw [h,List.drop_length]
    show (0:Int)<=n
    omega
  have hln:=fsum_len (rows.drop k)
  refine ⟨0,(rows.drop k,fsum (rows.drop k),n),⟨rfl,hle,show n<=4096 by omega⟩,fun T p hT=>?_⟩
  have hp:=gi_nn hT
  have hT2:getI (T.set p.toNat (rows,fsum rows,n)) p=some (rows,fsum rows,n):=gi_set hT
  have hs:=hk _ p hT2
  rw [st_two] at hs
  have hT3:getI (T.set p.toNat (rows.drop k,fsum (rows.drop k),n)) p=some (rows.drop k,fsum (rows.drop k),n):=gi_set hT
  unfold F_dyn_Table_Limit chk
  rw [hc.1,hc.2]
  simp only [Bool.or_self,cond_false,hp,cond_true,hT,Option.bind_some,hs,hT3,cloneF_eq (show (rows.drop k).length<=1000000 by omega),st_two]
theorem get_ok {t:Tb} (ht:TabOk t) (i:Int):∃ (f:Fd) (ok:Bool),f.1.length+f.2.1.length<=4096 /\ ∀ (T:List Tb) (p:Int),getI T p=some t->F_dyn_Table_Get p i T=some (f.1,f.2.1,f.2.2,ok):=by
 have hlen:=ht.len
 cases h1:decide (i < 1) with
 | true=>
  refine ⟨([],[],false),false,by decide,fun T p hT=>?_⟩
  unfold F_dyn_Table_Get
  rw [h1,cond_true]
 | false=>
  have h1':¬ i < 1:=of_decide_eq_false h1
  cases h2:decide (i > (t.1.length:Int)) with
  | true=>
   refine ⟨([],[],false),false,by decide,fun T p hT=>?_⟩
   have hp:=gi_nn hT
   unfold F_dyn_Table_Get chk
   simp only [h1,cond_false,hp,cond_true,hT,Option.bind_some,h2]
  | false=>
   have h2':¬ i > (t.1.length:Int):=of_decide_eq_false h2
   obtain ⟨f,hf,hm⟩:=gi_lt (l:=t.1) (j:=(t.1.length:Int) - i) (by omega) (by omega)
   refine ⟨f,true,ht.mem hm,fun T p hT=>?_⟩
   have hp:=gi_nn hT
   have hw:IntKind.i64.wrap ((t.1.length:Int) - i)=(t.1.length:Int) - i:=w64 (by omega) (by omega)
   unfold F_dyn_Table_Get chk
   simp only [h1,cond_false,hp,cond_true,hT,Option.bind_some,h2,hw,hf]
theorem add_ok {t:Tb} (ht:TabOk t) (a b:List Int) (c:Bool) (hab:a.length+b.length<=10000000):∃ t':Tb,TabOk t' /\ ∀ (T:List Tb) (p:Int),getI T p=some t->F_dyn_Table_Add p a b c T=some (T.set p.toNat t'):=by
 obtain ⟨rows,size,most⟩:=t
 obtain ⟨h1,h2,h3⟩:=ht
 have h1':size=fsum rows:=h1
 have h2':fsum rows<=most:=h2
 have h3':most<=4096:=h3
 subst h1'
 have hr:=fsum_len rows
 obtain ⟨z,hz⟩:∃ z:Int,(a.length:Int)+(b.length:Int)+32=z:=⟨_,rfl⟩
 have hsz:F_stat_Size a b c=some z:=by rw [size_eq (by omega) (by omega),hz]
 obtain ⟨k,hk1,hk2,hk⟩:=shr_ok (rows:=rows) (m:=most) (most - z) (by omega)
 have hln:=fsum_len (rows.drop k)
 have hdl:=fsum_drop rows k
 have hw:IntKind.i64.wrap (most - z)=most - z:=w64 (by omega) (by omega)
 cases hc:decide (z<=most) with
 | false=>
  refine ⟨(rows.drop k,fsum (rows.drop k),most),⟨rfl,show fsum (rows.drop k)<=most by omega,h3'⟩,fun T p hT=>?_⟩
  have hp:=gi_nn hT
  have hT3:getI (T.set p.toNat (rows.drop k,fsum (rows.drop k),most)) p=some (rows.drop k,fsum (rows.drop k),most):=gi_set hT
  unfold F_dyn_Table_Add chk
  simp only [hsz,Option.bind_some,hp,cond_true,hT,hw,hk T p hT,hT3,hc,cond_false]
 | true=>
  have hc':z<=most:=of_decide_eq_true hc
  have hle:fsum (rows.drop k)+z<=most:=by
   rcases hk2 with h | h
   ·omega
   ·rw [h,List.drop_length]
    show (0:Int)+z<=most
    omega
  have hfs:fsum (rows.drop k++[((a,b,false):Fd)])=fsum (rows.drop k)+z:=by
   rw [fsum_app,<- hz]
   show _+(((a.length:Int)+(b.length:Int)+32)+0)=_
   omega
  refine ⟨(rows.drop k++[(a,b,false)],fsum (rows.drop k)+z,most),⟨hfs.symm,?_,h3'⟩,fun T p hT=>?_⟩
  ·show fsum (rows.drop k++[((a,b,false):Fd)])<=most
   rw [hfs];exact hle
  have hp:=gi_nn hT
  have hT3:getI (T.set p.toNat (rows.drop k,fsum (rows.drop k),most)) p=some (rows.drop k,fsum (rows.drop k),most):=gi_set hT
  have hT4:getI (T.set p.toNat (rows.drop k++[(a,b,false)],fsum (rows.drop k),most)) p=some (rows.drop k++[(a,b,false)],fsum (rows.drop k),most):=gi_set hT
  have hck:(decide (((rows.drop k).length+([(a,b,false)]:List (List Int×List Int×Bool)).length)*40<=140737488355328)&&decide ((rows.drop k).length+([(a,b,false)]:List (List Int×List Int×Bool)).length<=maxLen))=true:=ck40 (by
   show (rows.drop k).length+1<=_
   omega)
  have hw2:IntKind.i64.wrap (fsum (rows.drop k)+z)=fsum (rows.drop k)+z:=w64 (by omega) (by omega)
  unfold F_dyn_Table_Add chk
  simp only [hsz,Option.bind_some,hp,cond_true,hT,hw,hk T p hT,hT3,hc,hck,eqI_self,st_two,hT4,hw2]
theorem dynnew_ok:∃ t:Tb,TabOk t /\ ∀ T:List Tb,F_dyn_New 4096 T=some ((T.length:Int),0,T++[t]):=by
 have h0:TabOk (([],0,0):Tb):=⟨rfl,Int.le_refl _,by decide⟩
 obtain ⟨k,hk1,hk2,hk⟩:=shr_ok (rows:=[]) (m:=4096) 4096 (by decide)
 have hk0:k=0:=by simpa using hk1
 subst hk0
 refine ⟨([],0,4096),⟨rfl,show (0:Int)<=4096 by decide,show (4096:Int)<=4096 by decide⟩,fun T=>?_⟩
 have hT:getI (T++[(([],0,0):Tb)]) (T.length:Int)=some ([],0,0):=gi_new
 have hp:nnI (T.length:Int)=true:=gi_nn hT
 have hT2:getI (T++[(([],0,4096):Tb)]) (T.length:Int)=some ([],0,4096):=gi_new
 have hs:=hk _ _ hT2
 rw [st_new] at hs
 have hs':F_dyn_Table_shrinks (T.length:Int) 4096 (T++[(([],0,4096):Tb)])=some (T++[(([],0,4096):Tb)]):=hs
 unfold F_dyn_New F_dyn_Table_Limit chk
 rw [show (decide ((4096:Int) < 0)||decide ((4096:Int) > 4096))=false by decide]
 simp only [cond_false,hp,cond_true,hT,Option.bind_some,st_new,hs',hT2,cloneF_eq (show ([]:List Fd).length<=1000000 by decide)]
 rfl
end
theorem at_ok {t:Tb} (ht:TabOk t) (i:Int):∃ (f:Fd) (ok:Bool),f.1.length+f.2.1.length<=4096 /\ ∀ (T:List Tb) (p:Int) (l:List Int) (a b:Int) (acc:List Fd),getI T p=some t->F_unpack_block_at l p a b acc i T=some (f.1,f.2.1,f.2.2,ok,l,p,a,b,acc):=by
 cases hc:decide (i<=61) with
 | true=>
  obtain ⟨x,hx,hl⟩:=stat_ok i
  refine ⟨(x.1,x.2.1,x.2.2.1),x.2.2.2,show x.1.length+x.2.1.length<=4096 by omega,fun T p l a b acc hT=>?_⟩
  unfold F_unpack_block_at
  rw [hc,cond_true,hx,Option.bind_some]
 | false=>
  obtain ⟨f,ok,hl,hg⟩:=get_ok ht (IntKind.i64.wrap (i - 61))
  refine ⟨f,ok,hl,fun T p l a b acc hT=>?_⟩
  unfold F_unpack_block_at
  rw [hc,cond_false,hg T p hT,Option.bind_some]
theorem rep_app (B:List Bk) (i j:Nat):B++List.replicate i bookC++List.replicate j bookC=B++List.replicate (i+j) bookC:=by
 rw [List.append_assoc,List.replicate_append_replicate]
theorem literal_ok {l:List Int} {t:Tb} (hb:Byt l) (hl:l.length<=10000000) (ht:TabOk t) {w:Nat} (h1:1<=w) (h8:w<=8):∃ (n v:List Int) (s ok:Bool) (k j:Nat),k<=l.length /\ n.length+v.length<=1000000 /\ (ok=true->1<=k) /\
  ∀ (T:List Tb) (p a b:Int) (acc:List Fd) (B:List Bk),getI T p=some t->F_unpack_block_literal l p a b acc (w:Int) T B=some (n,v,s,ok,l.drop k,p,a,b,acc,B++List.replicate j bookC):=by
 obtain ⟨v,ok,k,hn,hk,hv⟩:=number_ok hb (by omega) h1 h8
 have hdl:(l.drop k).length=l.length - k:=List.length_drop
 cases ok with
 | false=>
  refine ⟨[],[],false,false,k,0,hk,by decide,fun h=>(by cases h),fun T p a b acc B hT=>?_⟩
  unfold F_unpack_block_literal
  simp only [hn,Option.bind_some,Bool.not_false,cond_true,List.replicate_zero,List.append_nil]
 | true=>
  obtain ⟨k1,v0,v1⟩:=hv rfl
  cases hc:decide (v > 0) with
  | true=>
   obtain ⟨f,ok2,hf,hat⟩:=at_ok ht v
   cases ok2 with
   | false=>
    refine ⟨[],[],false,false,k,0,hk,by decide,fun h=>(by cases h),fun T p a b acc B hT=>?_⟩
    unfold F_unpack_block_literal
    simp only [hn,Option.bind_some,Bool.not_true,cond_false,hc,cond_true,hat _ _ _ _ _ _ hT,Bool.not_false,List.replicate_zero,List.append_nil]
   | true=>
    obtain ⟨s,ok3,k2,j,hx,hk2,hs,_⟩:=text_ok (l:=l.drop k) hb.drop (by omega)
    refine ⟨f.1,s,f.2.2,ok3,k+k2,j,by omega,by omega,fun _=>by omega,fun T p a b acc B hT=>?_⟩
    unfold F_unpack_block_literal
    simp only [hn,Option.bind_some,Bool.not_true,cond_false,hc,cond_true,hat _ _ _ _ _ _ hT,hx,List.drop_drop]
  | false=>
   obtain ⟨s,ok3,k2,j,hx,hk2,hs,_⟩:=text_ok (l:=l.drop k) hb.drop (by omega)
   rw [List.drop_drop] at hx
   cases ok3 with
   | false=>
    refine ⟨[],[],false,false,k+k2,j,by omega,by decide,fun h=>(by cases h),fun T p a b acc B hT=>?_⟩
    unfold F_unpack_block_literal
    simp only [hn,Option.bind_some,Bool.not_true,cond_false,hc,hx,Bool.not_false,cond_true]
   | true=>
    have hdl2:(l.drop (k+k2)).length=l.length - (k+k2):=List.length_drop
    obtain ⟨s2,ok4,k3,j2,hx2,hk3,hs2,_⟩:=text_ok (l:=l.drop (k+k2)) hb.drop (by omega)
    rw [List.drop_drop] at hx2
    refine ⟨s,s2,false,ok4,k+k2+k3,j+j2,by omega,by omega,fun _=>by omega,fun T p a b acc B hT=>?_⟩
    unfold F_unpack_block_literal
    simp only [hn,Option.bind_some,Bool.not_true,cond_false,hc,hx,hx2,rep_app]
theorem keep_ok {a b:Int} {acc:List Fd} {n v:List Int} (s:Bool) (hnv:n.length+v.length<=1000000) (ha:acc.length<=10000000):∃ (b':Int) (acc':List Fd),acc'.length<=acc.length+1 /\ ∀ l p,F_unpack_block_keep l p a b acc n v s=some (l,p,a,b',acc'):=by
 have hsz:F_stat_Size n v s=some ((n.length:Int)+(v.length:Int)+32):=size_eq (by omega) (by omega)
 cases hc:decide (IntKind.i64.wrap (b+((n.length:Int)+(v.length:Int)+32))<=a) with
 | true=>
  refine ⟨IntKind.i64.wrap (b+((n.length:Int)+(v.length:Int)+32)),acc++[(n,v,s)],by simp,fun l p=>?_⟩
  unfold F_unpack_block_keep chk
  rw [hsz,Option.bind_some,hc,cond_true,ck40 (by simp;omega),cond_true]
 | false=>
  refine ⟨IntKind.i64.wrap (b+((n.length:Int)+(v.length:Int)+32)),acc,by omega,fun l p=>?_⟩
  unfold F_unpack_block_keep chk
  rw [hsz,Option.bind_some,hc,cond_false]
abbrev RdO:=Bool×List Int×Int×Int×List Fd
abbrev RdF:=List Tb->Int->List Bk->Option (Bool×List Int×Int×Int×Int×List Fd×List Tb×List Bk)
def RdR (t:Tb) (n:Nat) (f:RdF):Prop:=∃ (o:RdO) (t':Tb) (j:Nat),TabOk t' /\ o.2.2.2.2.length<=n /\ ∀ (T:List Tb) (p:Int) (B:List Bk),getI T p=some t->f T p B=some (o.1,o.2.1,p,o.2.2.1,o.2.2.2.1,o.2.2.2.2,T.set p.toNat t',B++List.replicate j bookC)
theorem rdr_of {t t1:Tb} {n n1:Nat} {f g:RdF} (j1:Nat) (hn:n1<=n) (h:RdR t1 n1 g) (k:∀ (T:List Tb) (p:Int) (B:List Bk) r,getI T p=some t->g (T.set p.toNat t1) p (B++List.replicate j1 bookC)=some r->f T p B=some r):RdR t n f:=by
 obtain ⟨o,t',j,ht,ho,hh⟩:=h
 refine ⟨o,t',j1+j,ht,by omega,fun T p B hT=>?_⟩
 have:=hh (T.set p.toNat t1) p (B++List.replicate j1 bookC) (gi_set hT)
 rw [st_two,rep_app] at this
 exact k T p B _ hT this
theorem rdr_end {t:Tb} {n:Nat} {f:RdF} (ok:Bool) (l:List Int) (a b:Int) (acc:List Fd) (ht:TabOk t) (hn:acc.length<=n) (h:∀ (T:List Tb) (p:Int) (B:List Bk),getI T p=some t->f T p B=some (ok,l,p,a,b,acc,T,B)):RdR t n f:=by
 refine ⟨(ok,l,a,b,acc),t,0,ht,hn,fun T p B hT=>?_⟩
 rw [h T p B hT,st_same hT,List.replicate_zero,List.append_nil]
theorem rg1 (s):F_unpack_block_read_G1 (1,s)=F_unpack_block_read_G1_1 s:=rfl
theorem rg2 (s):F_unpack_block_read_G1 (2,s)=F_unpack_block_read_G1_2 s:=rfl
theorem rg3 (s):F_unpack_block_read_G1 (3,s)=F_unpack_block_read_G1_3 s:=rfl
theorem rg4 (s):F_unpack_block_read_G1 (4,s)=F_unpack_block_read_G1_4 s:=rfl
theorem read_ok:∀ (n:Nat) (l:List Int),l.length<=n->Byt l->l.length<=1000000 -> ∀ (b11:Bool) (i12:Int) (b13:Bool) (s14 s15:List Int) (b16:Bool) (a b:Int) (acc:List Fd) (t:Tb),TabOk t->acc.length+l.length<=5000000 ->
    RdR t (acc.length+l.length) (fun T p B=>joinC (F_unpack_block_read_G1_0 (b11,i12,b13,s14,s15,b16,l,p,a,b,acc,T,B)) (loopC F_unpack_block_read_G1))
  | n,l,hn,hb,hl,b11,i12,b13,s14,s15,b16,a,b,acc,t,ht,hal=>by
    cases h0:((l.length:Int)==0) with
    | true=>
      refine rdr_end true l a b acc ht (by omega) fun T p B hT=>?_
      unfold F_unpack_block_read_G1_0
      dsimp only
      rw [h0,cond_true]
      rfl
    | false=>
      have h0':(l.length:Int)≠0:=beq_eq_false_iff_ne.1 h0
      obtain ⟨x,hx,hxm⟩:=gi_lt (l:=l) (j:=0) (by omega) (by omega)
      cases n with
      | zero=>omega
      | succ n=>
      have key4 : ∀ (k : Nat) (bb : Bool) (i12 : Int) (b13 : Bool) (s14 s15 : List Int) (b16 : Bool) (t : Tb), TabOk t -> k <= l.length -> (bb = true -> 1 <= k) -> s14.length + s15.length <= 1000000 ->
          RdR t (acc.length+l.length) (fun T p B=>loopC F_unpack_block_read_G1 (4,(bb,i12,b13,s14,s15,b16,l.drop k,p,a,b,acc,T,B))):=by
        intro k bb i12 b13 s14 s15 b16 t ht hk hbb hs
        have hdl:(l.drop k).length=l.length - k:=List.length_drop
        cases bb with
        | false=>exact rdr_end false (l.drop k) a b acc ht (by omega) fun T p B hT=>loop_inl rfl
        | true=>
          obtain ⟨b',acc',ha',hkp⟩:=keep_ok (a:=a) (b:=b) (acc:=acc) b16 hs (by omega)
          have hk1:=hbb rfl
          refine rdr_of 0 (t1:=t) (by omega) (read_ok n (l.drop k) (by omega) hb.drop (by omega) true i12 true s14 s15 b16 a b' acc' t ht (by omega)) fun T p B r hT hr=>?_
          rw [st_same hT,List.replicate_zero,List.append_nil] at hr
          refine loop_inr (s':=(0,(true,i12,true,s14,s15,b16,l.drop k,p,a,b',acc',T,B))) ?_ (join_loop rfl hr)
          rw [rg4]
          unfold F_unpack_block_read_G1_4
          dsimp only
          rw [Bool.not_true,cond_false,hkp,Option.bind_some]
      cases h128:decide (x >= 128) with
      | true=>
        obtain ⟨v,ok,k,hnum,hk,hv⟩:=number_ok hb (by omega) (w:=7) (by omega) (by omega)
        have hnum':∀ p a b acc,F_unpack_block_number l p a b acc 7=some (v,ok,l.drop k,p,a,b,acc):=hnum
        have hG:∀ (T:List Tb) (p:Int) (B:List Bk),F_unpack_block_read_G1_0 (b11,i12,b13,s14,s15,b16,l,p,a,b,acc,T,B)=some (.inr (1,(b11,i12,b13,s14,s15,b16,l,p,a,b,acc,T,B))):=by
          intro T p B
          unfold F_unpack_block_read_G1_0
          dsimp only
          rw [h0,cond_false,hx,Option.bind_some,h128,cond_true]
        cases ok with
        | false=>
          refine rdr_of 0 (t1:=t) (Nat.le_refl _) (rdr_end (f:=fun T p B=>loopC F_unpack_block_read_G1 (4,(false,i12,b13,s14,s15,b16,l.drop k,p,a,b,acc,T,B))) false (l.drop k) a b acc ht (n:=acc.length+l.length) (by omega) fun T p B hT=>loop_inl rfl) fun T p B r hT hr=>?_
          rw [st_same hT,List.replicate_zero,List.append_nil] at hr
          rw [hG]
          refine loop_inr (s':=(4,(false,i12,b13,s14,s15,b16,l.drop k,p,a,b,acc,T,B))) ?_ hr
          rw [rg1]
          unfold F_unpack_block_read_G1_1
          dsimp only
          rw [hnum',Option.bind_some,cond_false]
        | true=>
          obtain ⟨k1,_,_⟩:=hv rfl
          obtain ⟨f,ok2,hf,hat⟩:=at_ok ht v
          refine rdr_of 0 (t1:=t) (Nat.le_refl _) (key4 k ok2 i12 b13 f.1 f.2.1 f.2.2 t ht hk (fun _=>k1) (by omega)) fun T p B r hT hr=>?_
          rw [st_same hT,List.replicate_zero,List.append_nil] at hr
          rw [hG]
          refine loop_inr (s':=(4,(ok2,i12,b13,f.1,f.2.1,f.2.2,l.drop k,p,a,b,acc,T,B))) ?_ hr
          rw [rg1]
          unfold F_unpack_block_read_G1_1
          dsimp only
          rw [hnum',Option.bind_some,cond_true,hat _ _ _ _ _ _ hT,Option.bind_some]
      | false=>
        cases h64:decide (x >= 64) with
        | true=>
          have hG:∀ (T:List Tb) (p:Int) (B:List Bk),F_unpack_block_read_G1_0 (b11,i12,b13,s14,s15,b16,l,p,a,b,acc,T,B)=some (.inr (2,(b11,i12,b13,s14,s15,b16,l,p,a,b,acc,T,B))):=by
            intro T p B
            unfold F_unpack_block_read_G1_0
            dsimp only
            rw [h0,cond_false,hx,Option.bind_some,h128,cond_false,h64,cond_true]
          obtain ⟨nm,v,s,ok,k,j,hk,hnv,hok,hlit⟩:=literal_ok hb (by omega) ht (w:=6) (by omega) (by omega)
          have hlit':∀ (T:List Tb) (p a b:Int) (acc:List Fd) (B:List Bk),getI T p=some t->F_unpack_block_literal l p a b acc 6 T B=some (nm,v,s,ok,l.drop k,p,a,b,acc,B++List.replicate j bookC):=hlit
          cases ok with
          | false=>
            refine rdr_of j (t1:=t) (Nat.le_refl _) (key4 k false i12 b13 nm v s t ht hk (fun h=>by cases h) hnv) fun T p B r hT hr=>?_
            rw [st_same hT] at hr
            rw [hG]
            refine loop_inr (s':=(4,(false,i12,b13,nm,v,s,l.drop k,p,a,b,acc,T,B++List.replicate j bookC))) ?_ hr
            rw [rg2]
            unfold F_unpack_block_read_G1_2
            dsimp only
            rw [hlit' _ _ _ _ _ _ hT,Option.bind_some,cond_false]
          | true=>
            obtain ⟨t1,ht1,hadd⟩:=add_ok ht nm v s (by omega)
            refine rdr_of j (t1:=t1) (Nat.le_refl _) (key4 k true i12 b13 nm v s t1 ht1 hk hok hnv) fun T p B r hT hr=>?_
            rw [hG]
            refine loop_inr (s':=(4,(true,i12,b13,nm,v,s,l.drop k,p,a,b,acc,T.set p.toNat t1,B++List.replicate j bookC))) ?_ hr
            rw [rg2]
            unfold F_unpack_block_read_G1_2
            dsimp only
            rw [hlit' _ _ _ _ _ _ hT,Option.bind_some,cond_true]
            dsimp only
            rw [hadd T p hT,Option.bind_some]
        | false=>
          cases h32:decide (x >= 32) with
          | true=>
            have hG:∀ (T:List Tb) (p:Int) (B:List Bk),F_unpack_block_read_G1_0 (b11,i12,b13,s14,s15,b16,l,p,a,b,acc,T,B)=some (.inr (3,(b11,i12,b13,s14,s15,b16,l,p,a,b,acc,T,B))):=by
              intro T p B
              unfold F_unpack_block_read_G1_0
              dsimp only
              rw [h0,cond_false,hx,Option.bind_some,h128,cond_false,h64,cond_false,h32,cond_true]
            obtain ⟨v,ok,k,hnum,hk,hv⟩:=number_ok hb (by omega) (w:=5) (by omega) (by omega)
            have hnum':∀ p a b acc,F_unpack_block_number l p a b acc 5=some (v,ok,l.drop k,p,a,b,acc):=hnum
            have hdl:(l.drop k).length=l.length - k:=List.length_drop
            cases hc:(((!ok)||b13)||(decide ((IntKind.i64.wrap (i12+1)) > 2))) with
            | true=>
              refine rdr_end false (l.drop k) a b acc ht (by omega) fun T p B hT=>?_
              rw [hG]
              refine loop_inl ?_
              rw [rg3]
              unfold F_unpack_block_read_G1_3
              dsimp only
              rw [hnum',Option.bind_some,hc,cond_true]
            | false=>
              have hok:ok=true:=by cases ok with
                | true=>rfl
                | false=>cases hc
              subst hok
              obtain ⟨k1,_,_⟩:=hv rfl
              obtain ⟨e,t1,ht1,hlim⟩:=limit_ok ht v
              cases he:(e != 0) with
              | true=>
                refine rdr_of 0 (t1:=t1) (g:=fun T p B=>some (false,l.drop k,p,a,b,acc,T,B)) (Nat.le_refl _) (rdr_end false (l.drop k) a b acc ht1 (n:=acc.length+l.length) (by omega) fun T p B hT=>rfl) fun T p B r hT hr=>?_
                rw [List.replicate_zero,List.append_nil] at hr
                rw [hG]
                refine loop_inl ?_
                cases hr
                rw [rg3]
                unfold F_unpack_block_read_G1_3
                dsimp only
                rw [hnum',Option.bind_some,hc,cond_false]
                dsimp only
                rw [hlim T p hT,Option.bind_some,he,cond_true]
              | false=>
                refine rdr_of 0 (t1:=t1) (by omega) (read_ok n (l.drop k) (by omega) hb.drop (by omega) true (IntKind.i64.wrap (i12+1)) b13 s14 s15 b16 a b acc t1 ht1 (by omega)) fun T p B r hT hr=>?_
                rw [List.replicate_zero,List.append_nil] at hr
                rw [hG]
                refine loop_inr (s':=(0,(true,IntKind.i64.wrap (i12+1),b13,s14,s15,b16,l.drop k,p,a,b,acc,T.set p.toNat t1,B))) ?_ (join_loop rfl hr)
                rw [rg3]
                unfold F_unpack_block_read_G1_3
                dsimp only
                rw [hnum',Option.bind_some,hc,cond_false]
                dsimp only
                rw [hlim T p hT,Option.bind_some,he,cond_false]
          | false=>
            obtain ⟨nm,v,s,ok,k,j,hk,hnv,hok,hlit⟩:=literal_ok hb (by omega) ht (w:=4) (by omega) (by omega)
            have hlit':∀ (T:List Tb) (p a b:Int) (acc:List Fd) (B:List Bk),getI T p=some t->F_unpack_block_literal l p a b acc 4 T B=some (nm,v,s,ok,l.drop k,p,a,b,acc,B++List.replicate j bookC):=hlit
            refine rdr_of j (t1:=t) (Nat.le_refl _) (key4 k ok i12 b13 nm v (decide (x >= 16)) t ht hk hok hnv) fun T p B r hT hr=>?_
            rw [st_same hT] at hr
            have hG:F_unpack_block_read_G1_0 (b11,i12,b13,s14,s15,b16,l,p,a,b,acc,T,B)=some (.inr (4,(ok,i12,b13,nm,v,decide (x >= 16),l.drop k,p,a,b,acc,T,B++List.replicate j bookC))):=by
              unfold F_unpack_block_read_G1_0
              dsimp only
              rw [h0,cond_false,hx,Option.bind_some,h128,cond_false,h64,cond_false,h32,cond_false,hlit' _ _ _ _ _ _ hT,Option.bind_some]
            rw [hG]
            exact hr
theorem decode_ok {l:List Int} {t:Tb} (hb:Byt l) (hl:l.length<=1000000) (ht:TabOk t) (dead:Bool) (room:Int):∃ (out:List Fd) (e:Int) (dead':Bool) (t':Tb) (j:Nat),TabOk t' /\
  ∀ (D:List (Int×Bool)) (T:List Tb) (B:List Bk) (d p:Int),getI D d=some (p,dead)->getI T p=some t->F_unpack_Dec_Decode d l room D T B=some (out,e,D.set d.toNat (p,dead'),T.set p.toNat t',B++List.replicate j bookC):=by
 cases dead with
 | true=>
  refine ⟨[],5,true,t,0,ht,fun D T B d p hD hT=>?_⟩
  have hd:=gi_nn hD
  unfold F_unpack_Dec_Decode chk
  rw [hd,cond_true,hD,Option.bind_some,cond_true,st_same hD,st_same hT,List.replicate_zero,List.append_nil]
 | false=>
  obtain ⟨o,t',j,ht',_,h⟩:=read_ok l.length l (Nat.le_refl _) hb hl false 0 false [] [] false room 0 [] t ht (by simp;omega)
  have hrd:∀ (T:List Tb) (p:Int) (B:List Bk),getI T p=some t->F_unpack_block_read l p room 0 [] T B=some (o.1,o.2.1,p,o.2.2.1,o.2.2.2.1,o.2.2.2.2,T.set p.toNat t',B++List.replicate j bookC):=fun T p B hT=>h T p B hT
  have hcl:F_slices_Clone_byte_byte l=some l:=by
   unfold F_slices_Clone_byte_byte
   rw [Nat.ble_eq_true_of_le (show l.length<=100000000 by omega),cond_true]
  cases hok:o.1 with
  | false=>
   refine ⟨[],2,true,t',j,ht',fun D T B d p hD hT=>?_⟩
   have hd:=gi_nn hD
   unfold F_unpack_Dec_Decode chk
   simp only [hd,cond_true,hD,Option.bind_some,cond_false,hcl,hrd T p B hT,hok,Bool.not_false]
  | true=>
   cases hc:decide (o.2.2.2.1 > room) with
   | true=>
    refine ⟨[],3,false,t',j,ht',fun D T B d p hD hT=>?_⟩
    have hd:=gi_nn hD
    unfold F_unpack_Dec_Decode chk
    simp only [hd,cond_true,hD,Option.bind_some,cond_false,hcl,hrd T p B hT,hok,Bool.not_true,hc,st_same hD]
   | false=>
    refine ⟨o.2.2.2.2,0,false,t',j,ht',fun D T B d p hD hT=>?_⟩
    have hd:=gi_nn hD
    unfold F_unpack_Dec_Decode chk
    simp only [hd,cond_true,hD,Option.bind_some,cond_false,hcl,hrd T p B hT,hok,Bool.not_true,hc,st_same hD]
abbrev Pz:=Int×List Int
theorem cut_mid {α:Type} (a b c:List α) {m n:Int} (hm:m=(a.length:Int)) (hn:n=((a.length+b.length:Nat):Int)):cutI (a++(b++c)) m n=some b:=by
 rw [<-List.append_assoc]
 exact cutI_mid a b c hm hn
theorem cut_back {α:Type} (a b:List α) {m:Int} (hm:m=(a.length:Int)):cutI (a++b) m ((a++b).length:Int)=some b:=cutI_end a b hm rfl
theorem clone_eq {l:List Int} (h:l.length<=100000000):F_bytes_Clone l=some l:=by
 unfold F_bytes_Clone
 rw [Nat.ble_eq_true_of_le h,cond_true]
def NxShort (X:List Int):Prop:=∀ (P:List Pz) (p:Int),getI P p=some (16384,X)->F_frame_Parser_Next p P=some (0,0,0,[],4,P)
def NxErr (X:List Int):Prop:=∀ (Z:List Int) (P:List Pz) (p:Int),Z.length<=10000000->getI P p=some (16384,X++Z)->F_frame_Parser_Next p P=some (0,0,0,[],3,P)
def NxFrm (X:List Int) (k fl s:Int) (body rest:List Int):Prop:=∀ (Z:List Int) (P:List Pz) (p:Int),Z.length<=10000000->getI P p=some (16384,X++Z)->F_frame_Parser_Next p P=some (k,fl,s,body,0,P.set p.toNat (16384,rest++Z))
def FrOk (k fl s:Int) (body:List Int):Prop:=(0<=k /\ k < 256) /\ (0<=fl /\ fl < 256) /\ (0<=s /\ s<=2147483647) /\ Byt body /\ body.length<=16384
section
variable {W : List Int} {P : List Pz} {p : Int} {h0 h1 h2 h3 h4 h5 h6 h7 h8 n q : Int}
theorem core_tiny (hg:getI P p=some (16384,W)) (h9:W.length < 9):F_frame_Parser_Next p P=some (0,0,0,[],4,P):=by
 have hp:=gi_nn hg
 unfold F_frame_Parser_Next
 refine (join_inr (s:=(0,(0,0,0,[],P))) ?_).trans ?_
 ·unfold chk
  rw [hp,cond_true,hg,Option.bind_some]
  dsimp only
  rw [decide_eq_true (show (W.length:Int) < 9 by omega),cond_true]
 ·exact loop_inl rfl
theorem core_err (hg:getI P p=some (16384,W)) (h9:¬ (W.length:Int) < 9) (g0:getI W 0=some h0) (g1:getI W 1=some h1) (g2:getI W 2=some h2)
  (e3:bits .or .i64 (bits .or .i64 (IntKind.i64.wrap ((IntKind.i64.wrap h0)*2 ^ 16)) (IntKind.i64.wrap ((IntKind.i64.wrap h1)*2 ^ 8))) (IntKind.i64.wrap h2)=n) (hbig:n > 16384):F_frame_Parser_Next p P=some (0,0,0,[],3,P):=by
 have hp:=gi_nn hg
 unfold F_frame_Parser_Next
 refine join_inl ?_
 unfold chk
 simp only [hp,cond_true,hg,Option.bind_some,g0,g1,g2,e3,decide_eq_false h9,cond_false,decide_eq_true hbig]
theorem core_short (hg:getI P p=some (16384,W)) (h9:¬ (W.length:Int) < 9) (g0:getI W 0=some h0) (g1:getI W 1=some h1) (g2:getI W 2=some h2)
  (e3:bits .or .i64 (bits .or .i64 (IntKind.i64.wrap ((IntKind.i64.wrap h0)*2 ^ 16)) (IntKind.i64.wrap ((IntKind.i64.wrap h1)*2 ^ 8))) (IntKind.i64.wrap h2)=n) (hbig:¬ n > 16384) (hs:IntKind.i64.wrap ((W.length:Int) - 9) < n):F_frame_Parser_Next p P=some (0,0,0,[],4,P):=by
 have hp:=gi_nn hg
 unfold F_frame_Parser_Next
 refine (join_inr (s:=(0,(0,0,0,[],P))) ?_).trans (loop_inl rfl)
 unfold chk
 simp only [hp,cond_true,hg,Option.bind_some,g0,g1,g2,e3,decide_eq_false h9,cond_false,decide_eq_false hbig,decide_eq_true hs]
theorem core_frm {body rest:List Int} (hg:getI P p=some (16384,W)) (h9:¬ (W.length:Int) < 9) (g0:getI W 0=some h0) (g1:getI W 1=some h1) (g2:getI W 2=some h2)
  (g3:getI W 3=some h3) (g4:getI W 4=some h4) (g5:getI W 5=some h5) (g6:getI W 6=some h6) (g7:getI W 7=some h7) (g8:getI W 8=some h8) (w3:IntKind.i64.wrap h3=h3) (w4:IntKind.i64.wrap h4=h4)
  (e3:bits .or .i64 (bits .or .i64 (IntKind.i64.wrap ((IntKind.i64.wrap h0)*2 ^ 16)) (IntKind.i64.wrap ((IntKind.i64.wrap h1)*2 ^ 8))) (IntKind.i64.wrap h2)=n) (hbig:¬ n > 16384) (hs:¬ IntKind.i64.wrap ((W.length:Int) - 9) < n)
  (e5:bits .and .i64 (bits .or .i64 (bits .or .i64 (bits .or .i64 (IntKind.i64.wrap ((IntKind.i64.wrap h5)*2 ^ 24)) (IntKind.i64.wrap ((IntKind.i64.wrap h6)*2 ^ 16))) (IntKind.i64.wrap ((IntKind.i64.wrap h7)*2 ^ 8))) (IntKind.i64.wrap h8)) 2147483647=q)
  (hc:cutI W 9 (IntKind.i64.wrap (9+n))=some body) (hc2:cutI W (IntKind.i64.wrap (9+n)) (W.length:Int)=some rest) (hl:body.length<=16384):F_frame_Parser_Next p P=some (h3,h4,q,body,0,P.set p.toNat (16384,rest)):=by
 have hp:=gi_nn hg
 have hcl:=clone_eq (l:=body) (by omega)
 unfold F_frame_Parser_Next
 refine join_inl ?_
 unfold chk
 simp only [hp,cond_true,hg,Option.bind_some,g0,g1,g2,g3,g4,g5,g6,g7,g8,e3,e5,decide_eq_false h9,cond_false,decide_eq_false hbig,decide_eq_false hs,hc,hcl,hc2]
 rw [w3,w4]
end
theorem head_len (h0 h1 h2 h3 h4 h5 h6 h7 h8:Int) (Y Z:List Int):((h0::h1::h2::h3::h4::h5::h6::h7::h8::Y++Z).length:Int)=9+(Y.length:Int)+(Z.length:Int):=by
 simp only [List.length_append,List.length_cons];omega
theorem next_any {X:List Int} (hb:Byt X) (hl:X.length<=10000000):NxShort X \/ NxErr X \/ ∃ k fl s body rest,FrOk k fl s body /\ Byt rest /\ rest.length+body.length+9=X.length /\ NxFrm X k fl s body rest:=by
 by_cases h9:X.length < 9
 ·exact .inl fun P p hg=>core_tiny hg h9
 ·match X,hb,hl,h9 with
  | h0::h1::h2::h3::h4::h5::h6::h7::h8::Y,hb,hl,h9=>
   have b0:=hb h0 (by simp)
   have b1:=hb h1 (by simp)
   have b2:=hb h2 (by simp)
   have b3:=hb h3 (by simp)
   have b4:=hb h4 (by simp)
   have b5:=hb h5 (by simp)
   have b6:=hb h6 (by simp)
   have b7:=hb h7 (by simp)
   have b8:=hb h8 (by simp)
   have bY:Byt Y:=fun x hx=>hb x (by simp [hx])
   have hlY:Y.length+9<=10000000:=by
    simp only [List.length_cons] at hl
    omega
   obtain ⟨n,hn⟩:∃ n:Int,h0*65536+h1*256+h2=n:=⟨_,rfl⟩
   have hn0:0<=n:=by omega
   have e3:=num3 b0 b1 b2
   rw [hn] at e3
   obtain ⟨q,hq⟩:∃ q:Int,h5*16777216+h6*65536+h7*256+h8=q:=⟨_,rfl⟩
   have e4:=num4 b5 b6 b7 b8
   rw [hq] at e4
   have hq0:0<=q /\ q < 4294967296:=by omega
   have e5:bits .and .i64 (bits .or .i64 (bits .or .i64 (bits .or .i64 (IntKind.i64.wrap ((IntKind.i64.wrap h5)*2 ^ 24)) (IntKind.i64.wrap ((IntKind.i64.wrap h6)*2 ^ 16))) (IntKind.i64.wrap ((IntKind.i64.wrap h7)*2 ^ 8))) (IntKind.i64.wrap h8)) 2147483647=q % 2147483648:=by
    rw [e4,and31 (by omega) (by omega)]
   by_cases hbig:n > 16384
   ·refine .inr (.inl fun Z P p hZ hg=>?_)
    have hle:=head_len h0 h1 h2 h3 h4 h5 h6 h7 h8 Y Z
    exact core_err hg (by omega) (h0:=h0) (h1:=h1) (h2:=h2) rfl rfl rfl e3 hbig
   ·by_cases hsh:(Y.length:Int) < n
    ·refine .inl fun P p hg=>?_
     have hle:=head_len h0 h1 h2 h3 h4 h5 h6 h7 h8 Y []
     rw [List.append_nil] at hle
     have hle2:((h0::h1::h2::h3::h4::h5::h6::h7::h8::Y).length:Int)=9+(Y.length:Int):=by rw [hle];simp
     exact core_short hg (by omega) (h0:=h0) (h1:=h1) (h2:=h2) rfl rfl rfl e3 hbig (by rw [hle2,w64 (by omega) (by omega)];omega)
    ·have htl:(Y.take n.toNat).length=n.toNat:=by rw [List.length_take];omega
     have hdl:(Y.drop n.toNat).length=Y.length - n.toNat:=List.length_drop
     refine .inr (.inr ⟨h3,h4,q % 2147483648,Y.take n.toNat,Y.drop n.toNat,⟨b3,b4,by omega,bY.take,by omega⟩,bY.drop,by simp only [List.length_cons];omega,fun Z P p hZ hg=>?_⟩)
     have hle:=head_len h0 h1 h2 h3 h4 h5 h6 h7 h8 Y Z
     have hX:h0::h1::h2::h3::h4::h5::h6::h7::h8::Y++Z=[h0,h1,h2,h3,h4,h5,h6,h7,h8]++(Y.take n.toNat++(Y.drop n.toNat++Z)):=by
      rw [<-List.append_assoc (Y.take n.toNat),List.take_append_drop];rfl
     have hc:cutI (h0::h1::h2::h3::h4::h5::h6::h7::h8::Y++Z) 9 (IntKind.i64.wrap (9+n))=some (Y.take n.toNat):=by
      rw [hX,w64 (by omega) (by omega)]
      exact cut_mid _ _ _ rfl (by rw [htl];show 9+n=((9+n.toNat:Nat):Int);omega)
     have hc2:cutI (h0::h1::h2::h3::h4::h5::h6::h7::h8::Y++Z) (IntKind.i64.wrap (9+n)) ((h0::h1::h2::h3::h4::h5::h6::h7::h8::Y++Z).length:Int)=some (Y.drop n.toNat++Z):=by
      rw [hX,<- List.append_assoc,w64 (by omega) (by omega)]
      exact cut_back _ _ (by rw [List.length_append,htl];show 9+n=((9+n.toNat:Nat):Int);omega)
     exact core_frm hg (by omega) (h0:=h0) (h1:=h1) (h2:=h2) (h3:=h3) (h4:=h4) (h5:=h5) (h6:=h6) (h7:=h7) (h8:=h8) rfl rfl rfl rfl rfl rfl rfl rfl rfl (w64 (by omega) (by omega)) (w64 (by omega) (by omega)) e3 hbig (by rw [hle,w64 (by omega) (by omega)];omega) e5 hc hc2 (by omega)
  | [],_,_,h9=>exact absurd (by simp) h9
  | [_],_,_,h9=>exact absurd (by simp) h9
  | [_,_],_,_,h9=>exact absurd (by simp) h9
  | [_,_,_],_,_,h9=>exact absurd (by simp) h9
  | [_,_,_,_],_,_,h9=>exact absurd (by simp) h9
  | [_,_,_,_,_],_,_,h9=>exact absurd (by simp) h9
  | [_,_,_,_,_,_],_,_,h9=>exact absurd (by simp) h9
  | [_,_,_,_,_,_,_],_,_,h9=>exact absurd (by simp) h9
  | [_,_,_,_,_,_,_,_],_,_,h9=>exact absurd (by simp) h9
abbrev Prt:=List Int×Int×Int×Int×Int×List (Int×Int)×Bool×Bool×Bool×Bool×Bool×Int
def PrtOk (N:Nat) (x:Prt):Prop:=Byt x.1 /\ x.1.length<=N /\ 0<=x.2.2.2.2.1 /\ x.2.2.2.2.1<=2147483647 /\ (∀ q∈x.2.2.2.2.2.1,0<=q.2 /\ q.2 < 4294967296) /\ x.2.2.2.2.2.1.length<=16384
theorem prt_nil {N:Nat} {a b c:Int} {d e f g h:Bool} {i:Int}:PrtOk N ([],a,b,c,0,[],d,e,f,g,h,i):=⟨Byt.nil,Nat.zero_le _,Int.le_refl _,(by show (0:Int)<=2147483647;decide),fun q hq=>(by cases hq),Nat.zero_le _⟩
theorem prt_blk {N:Nat} {l:List Int} {a b c:Int} {d e f g h:Bool} {i:Int} (hb:Byt l) (hl:l.length<=N):PrtOk N (l,a,b,c,0,[],d,e,f,g,h,i):=⟨hb,hl,Int.le_refl _,(by show (0:Int)<=2147483647;decide),fun q hq=>(by cases hq),Nat.zero_le _⟩
theorem prt_upd {N:Nat} {a b c n:Int} {d e f g h:Bool} {i:Int} (h0:0<=n) (h1:n<=2147483647):PrtOk N ([],a,b,c,n,[],d,e,f,g,h,i):=⟨Byt.nil,Nat.zero_le _,h0,h1,fun q hq=>(by cases hq),Nat.zero_le _⟩
theorem tot_loop_step {S R:Type} {P:R->Prop} {body:S->Option (R⊕S)} {s:S} (h:Tot (fun x=>match x with | .inl r=>P r | .inr s'=>Tot P (loopC body s')) (body s)):Tot P (loopC body s):=by
 obtain ⟨x,e,hx⟩:=h
 cases x with
 | inl r=>exact ⟨r,loop_inl e,hx⟩
 | inr s'=>
  obtain ⟨r,e2,hr⟩:=hx
  exact ⟨r,loop_inr e e2,hr⟩
theorem conn_tot {N:Nat} {i:Int}:Tot (PrtOk N) (F_part_conn i):=tot_some prt_nil
theorem stream_tot {N:Nat} {i:Int}:Tot (PrtOk N) (F_part_stream i):=tot_some prt_nil
theorem clone_tot {l:List Int} (h:l.length<=16384):Tot (fun x=>x=l) (F_bytes_Clone l):=⟨l,clone_eq (by omega),rfl⟩
theorem number_tot {l:List Int} (hb:Byt l) (h:4<=l.length):Tot (fun n=>0<=n /\ n < 4294967296) (F_part_number l):=by
 match l,hb,h with
 | a::b::c::d::r,hb,h=>
  have b0:=hb a (by simp)
  have b1:=hb b (by simp)
  have b2:=hb c (by simp)
  have b3:=hb d (by simp)
  have e4:=num4 b0 b1 b2 b3
  unfold F_part_number
  refine ⟨_,rfl,?_⟩
  rw [e4]
  omega
 | [],_,h=>exact absurd h (by simp)
 | [_],_,h=>exact absurd h (by simp)
 | [_,_],_,h=>exact absurd h (by simp)
 | [_,_,_],_,h=>exact absurd h (by simp)
theorem eta_tot {N:Nat} {o:Option Prt} (h:Tot (PrtOk N) o):Tot (PrtOk N) (o.bind fun x5=>some (x5.1,x5.2.1,x5.2.2.1,x5.2.2.2.1,x5.2.2.2.2.1,x5.2.2.2.2.2.1,x5.2.2.2.2.2.2.1,x5.2.2.2.2.2.2.2.1,x5.2.2.2.2.2.2.2.2.1,x5.2.2.2.2.2.2.2.2.2.1,x5.2.2.2.2.2.2.2.2.2.2.1,x5.2.2.2.2.2.2.2.2.2.2.2)):=tot_bind h fun x hx=>tot_some hx
abbrev BSt:=List Int×Int×List Int×Int×Int×Int×Int×List (Int×Int)×Bool×Bool×Bool×List Int×Int×Int×Int×Int×List (Int×Int)×Bool×Bool×Bool×Bool×Bool×Int
def BOk (N:Nat) (s:BSt):Prop:=N<=16384 /\ Byt s.1 /\ s.1.length<=N /\ 0<=s.2.1 /\ s.2.1<=255 /\ s.2.2.2.2.2.2.1=0 /\ s.2.2.2.2.2.2.2.1=[]
theorem etaL_tot {N:Nat} {T:Type} {Q:Prt⊕T->Prop} {o:Option Prt} (h:Tot (PrtOk N) o) (k:∀ x,PrtOk N x->Q (.inl x)):Tot Q (o.bind fun x5=>some (.inl (x5.1,x5.2.1,x5.2.2.1,x5.2.2.2.1,x5.2.2.2.2.1,x5.2.2.2.2.2.1,x5.2.2.2.2.2.2.1,x5.2.2.2.2.2.2.2.1,x5.2.2.2.2.2.2.2.2.1,x5.2.2.2.2.2.2.2.2.2.1,x5.2.2.2.2.2.2.2.2.2.2.1,x5.2.2.2.2.2.2.2.2.2.2.2))):=tot_bind h fun x hx=>tot_some (k x hx)
theorem pad_tot {N:Nat} {T:Type} {Q:Prt⊕T->Prop} {l:List Int} {n:Int} {f:List Int->Prt} (hN:N<=16384) (hb:Byt l) (hl:l.length<=N) (h0:0<=n) (h1:¬ n > (l.length:Int)) (k:∀ x,Byt x->x.length<=N->Q (.inl (f x))) :
  Tot Q ((cutI l 0 (IntKind.i64.wrap ((l.length:Int) - n))).bind fun x=>(F_bytes_Clone x).bind fun y=>some (.inl (f y))):=by
 rw [w64 (by omega) (by omega),cut_head (by omega) (by omega),Option.bind_some]
 have hle:(l.take ((l.length:Int) - n).toNat).length<=N:=by rw [List.length_take];omega
 rw [clone_eq (by omega),Option.bind_some]
 exact tot_some (k _ hb.take hle)
theorem bod1 {N:Nat} {i1 i2:Int} {s:BSt} (h:BOk N s):Tot (PrtOk N) (loopC (F_part_bodied_G1 i1 i2) (1,s)):=by
 obtain ⟨hN,h1,h2,h3,h4,h5,h6⟩:=h
 refine tot_loop_step ?_
 show Tot _ (F_part_bodied_G1_1 s)
 unfold F_part_bodied_G1_1
 dsimp only
 refine tot_cond (fun _=>etaL_tot conn_tot fun x hx=>hx) (fun hc=>?_)
 refine pad_tot (f:=fun y=>(y,s.2.2.2.1,s.2.2.2.2.1,s.2.2.2.2.2.1,s.2.2.2.2.2.2.1,s.2.2.2.2.2.2.2.1,s.2.2.2.2.2.2.2.2.1,s.2.2.2.2.2.2.2.2.2.1,s.2.2.2.2.2.2.2.2.2.2.1,false,false,0)) hN h1 h2 h3 (of_decide_eq_false hc) fun x hx hxl=>?_
 rw [h5,h6]
 exact prt_blk hx hxl
theorem bod0 {N:Nat} {i1 i2:Int} {s:BSt} (h:BOk N s):Tot (PrtOk N) (loopC (F_part_bodied_G1 i1 i2) (0,s)):=by
 have hh:=h
 obtain ⟨hN,h1,h2,h3,h4,h5,h6⟩:=h
 refine tot_loop_step ?_
 show Tot _ (F_part_bodied_G1_0 i1 i2 s)
 unfold F_part_bodied_G1_0
 dsimp only
 refine tot_cond (fun _=>tot_some (bod1 hh)) (fun _=>?_)
 refine tot_cond (fun _=>tot_some (bod1 hh)) (fun _=>?_)
 refine tot_cond (fun _=>etaL_tot conn_tot fun x hx=>hx) (fun hc=>?_)
 have h5':¬ (s.1.length:Int) < 5:=of_decide_eq_false hc
 rw [cut_tail (by omega) (by omega),Option.bind_some]
 refine tot_cond (fun _=>etaL_tot conn_tot fun x hx=>hx) (fun hc=>?_)
 refine pad_tot (f:=fun y=>(y,s.2.2.2.1,s.2.2.2.2.1,s.2.2.2.2.2.1,s.2.2.2.2.2.2.1,s.2.2.2.2.2.2.2.1,s.2.2.2.2.2.2.2.2.1,s.2.2.2.2.2.2.2.2.2.1,s.2.2.2.2.2.2.2.2.2.2.1,false,false,0)) hN h1.drop (by rw [List.length_drop];omega) h3 (of_decide_eq_false hc) fun x hx hxl=>?_
 rw [h5,h6]
 exact prt_blk hx hxl
theorem bodied_tot {N:Nat} {k fl s:Int} {l:List Int} (hN:N<=16384) (hb:Byt l) (hl:l.length<=N):Tot (PrtOk N) (F_part_bodied k fl s l):=by
  unfold F_part_bodied
  refine tot_join (Q:=fun p=>(p.1=0 \/ p.1=1) /\ BOk N p.2) ?_ (fun p hp=>?_)
  · have key : ∀ (b : Bool) (e0 : ((l.length : Int) == 0) = false), ∃ x r, l = x :: r /\ 0 <= x /\ x < 256 /\ Byt r /\ r.length <= N /\ cutI l 1 (l.length : Int) = some r := by
      intro b e0
      cases l with
      | nil=>cases e0
      | cons x r=>
        refine ⟨x,r,rfl,(hb x (by simp)).1,(hb x (by simp)).2,fun y hy=>hb y (by simp [hy]),by simp only [List.length_cons] at hl;omega,?_⟩
        rw [cut_tail (by omega) (by simp only [List.length_cons];omega)]
        rfl
    refine tot_cond (fun _=>?_) (fun _=>?_)
    all_goals
      refine tot_cond (fun _=>etaL_tot conn_tot fun x hx=>hx) (fun _=>?_)
      refine tot_cond (fun _=>tot_some ⟨.inl rfl,hN,hb,hl,Int.le_refl _,(by show (0:Int)<=255;decide),rfl,rfl⟩) (fun _=>?_)
      refine tot_cond (fun _=>etaL_tot conn_tot fun x hx=>hx) (fun e0=>?_)
      obtain ⟨x,r,rfl,hx0,hx1,hr,hrl,hcut⟩:=key true e0
      rw [show getI (x::r) 0=some x from rfl,Option.bind_some,hcut,Option.bind_some]
      have hw:IntKind.i64.wrap x=x:=w64 (by omega) (by omega)
      simp only [hw]
      refine tot_cond (fun _=>tot_some ⟨.inr rfl,hN,hr,hrl,hx0,by show x<=255;omega,rfl,rfl⟩) (fun _=>?_)
      refine tot_cond (fun _=>tot_some ⟨.inr rfl,hN,hr,hrl,hx0,by show x<=255;omega,rfl,rfl⟩) (fun _=>?_)
      refine tot_cond (fun _=>etaL_tot conn_tot fun x hx=>hx) (fun hc=>?_)
      have h5':¬ (r.length:Int) < 5:=of_decide_eq_false hc
      rw [cut_tail (by omega) (by omega),Option.bind_some]
      refine tot_cond (fun _=>etaL_tot conn_tot fun x hx=>hx) (fun hc=>?_)
    · exact pad_tot (f:=fun y=>(y,IntKind.i64.wrap (x+1),0,0,0,[],decide (bits .and .i64 fl 1 > 0),false,decide (bits .and .i64 fl 4 > 0),false,false,0)) hN hr.drop (by rw [List.length_drop];omega) hx0 (of_decide_eq_false hc) fun x hx hxl=>prt_blk hx hxl
    · exact pad_tot (f:=fun y=>(y,IntKind.i64.wrap (x+1),0,0,0,[],decide (bits .and .i64 fl 1 > 0),false,false,false,false,0)) hN hr.drop (by rw [List.length_drop];omega) hx0 (of_decide_eq_false hc) fun x hx hxl=>prt_blk hx hxl
  · obtain ⟨q,s⟩:=p
    obtain ⟨hq,hs⟩:=hp
    rcases hq with rfl | rfl
    · exact bod0 hs
    · exact bod1 hs
theorem and31r {x:Int} (h0:0<=x) (h1:x < 4294967296):0<=bits .and .i64 x 2147483647 /\ bits .and .i64 x 2147483647<=2147483647:=by
 rw [and31 h0 (by omega)]
 omega
abbrev SSt:=List Int×List Int×Int×Int×Int×Int×List (Int×Int)×Bool×Bool×Bool×Bool×Bool×Int×List Int×Int×Int×Int×Int×List (Int×Int)×Bool×Bool×Bool
def SOk (s:SSt):Prop:=Byt s.1 /\ s.1.length % 6=0 /\ s.2.2.2.2.2.2.2.2.2.2.2.2.2.1=[] /\ s.2.2.2.2.2.2.2.2.2.2.2.2.2.2.2.2.2.1=0 /\ (∀ q∈s.2.2.2.2.2.2.2.2.2.2.2.2.2.2.2.2.2.2.1,0<=q.2 /\ q.2 < 4294967296) /\ s.2.2.2.2.2.2.2.2.2.2.2.2.2.2.2.2.2.2.1.length+s.1.length<=16384
abbrev SSr:=List Int×Int×Int×Int×Int×List (Int×Int)×Bool×Bool×Bool×Bool×Bool×Int×List Int×Int×Int×Int×Int×List (Int×Int)×Bool×Bool×Bool
def SOr (s:SSr):Prop:=s.2.2.2.2.2.2.2.2.2.2.2.2.1=[] /\ s.2.2.2.2.2.2.2.2.2.2.2.2.2.2.2.2.1=0 /\ (∀ q∈s.2.2.2.2.2.2.2.2.2.2.2.2.2.2.2.2.2.1,0<=q.2 /\ q.2 < 4294967296) /\ s.2.2.2.2.2.2.2.2.2.2.2.2.2.2.2.2.2.1.length<=16384
theorem sets_loop {N:Nat} {s:SSt} (h:SOk s):Tot (fun x:Prt⊕SSr=>match x with | .inl r=>PrtOk N r | .inr s'=>SOr s') (loopC F_part_settings_L9 s):=by
 refine tot_loop (I:=SOk) (fun s=>s.1.length) (fun s hs=>?_) s.1.length s (Nat.le_refl _) h
 obtain ⟨h1,h2,h3,h4,h5,h6⟩:=hs
 unfold F_part_settings_L9
 dsimp only
 refine tot_cond (fun hc=>?_) (fun _=>tot_some ⟨h3,h4,h5,Nat.le_trans (Nat.le_add_right _ _) h6⟩)
 have hc':(s.1.length:Int) > 0:=of_decide_eq_true hc
 have hl6:6<=s.1.length:=by omega
 obtain ⟨x0,g0,m0⟩:=gi_lt (l:=s.1) (j:=0) (by omega) (by omega)
 obtain ⟨x1,g1,m1⟩:=gi_lt (l:=s.1) (j:=1) (by omega) (by omega)
 rw [g0,Option.bind_some,g1,Option.bind_some,cut_tail (by omega) (by omega),Option.bind_some]
 refine tot_bind (number_tot (h1.drop) (by rw [List.length_drop];show 4<=s.1.length - 2;omega)) fun n hn=>?_
 refine tot_chk (ck16 (by simp only [List.length_cons,List.length_nil];omega)) ?_
 rw [cut_tail (by omega) (by omega),Option.bind_some]
 have hd:(s.1.drop (6:Int).toNat).length=s.1.length - 6:=List.length_drop
 refine tot_some ⟨⟨h1.drop,by show (s.1.drop (6:Int).toNat).length % 6=0;omega,h3,h4,fun q hq=>?_,?_⟩,?_⟩
 ·rcases List.mem_append.1 hq with hq | hq
  ·exact h5 q hq
  ·rcases List.mem_singleton.1 hq with rfl
   exact hn
 ·show (s.2.2.2.2.2.2.2.2.2.2.2.2.2.2.2.2.2.2.1++[_]).length+(s.1.drop (6:Int).toNat).length<=16384
  rw [List.length_append,hd]
  show _+1+_<=_
  omega
 ·show (s.1.drop (6:Int).toNat).length < s.1.length
  omega
theorem settings_tot {N:Nat} {k fl s:Int} {l:List Int} (hN:N<=16384) (hb:Byt l) (hl:l.length<=N):Tot (PrtOk N) (F_part_settings k fl s l):=by
 have key:∀ (hc:decide (Int.tmod (l.length:Int) 6 > 0)=false) (b:Bool),Tot (PrtOk N) (joinC (loopC F_part_settings_L9 (l,[],0,0,0,0,[],false,false,false,false,false,0,[],0,0,0,0,[],false,b,false)) F_part_settings_J7):=by
  intro hc b
  have hc':¬ Int.tmod (l.length:Int) 6 > 0:=of_decide_eq_false hc
  rw [Int.tmod_eq_emod_of_nonneg (by omega)] at hc'
  have h0:=sets_loop (N:=N) (s:=(l,[],0,0,0,0,[],false,false,false,false,false,0,[],0,0,0,0,[],false,b,false)) ⟨hb,by show l.length % 6=0;omega,rfl,rfl,fun q hq=>(by cases hq),by show 0+l.length<=16384;omega⟩
  refine tot_join (Q:=SOr) (tot_mono h0 fun x hx=>(by cases x <;> exact hx)) fun s hs=>?_
  obtain ⟨h3,h4,h5,h6⟩:=hs
  unfold F_part_settings_J7
  dsimp only
  rw [h3,h4]
  exact tot_some ⟨Byt.nil,Nat.zero_le _,Int.le_refl _,(by show (0:Int)<=2147483647;decide),h5,h6⟩
 unfold F_part_settings
 refine tot_cond (fun _=>eta_tot conn_tot) (fun _=>?_)
 refine tot_cond (fun _=>?_) (fun _=>?_)
 ·refine tot_cond (fun _=>eta_tot conn_tot) (fun _=>?_)
  refine tot_cond (fun _=>eta_tot conn_tot) (fun hc=>key hc _)
 ·refine tot_cond (fun _=>eta_tot conn_tot) (fun hc=>key hc _)
theorem whole_tot {N:Nat} {k fl s:Int} {l:List Int} (hN:N<=16384) (hb:Byt l) (hl:l.length<=N):Tot (PrtOk N) (F_part_whole k fl s l):=by
 unfold F_part_whole
 refine tot_cond (fun _=>eta_tot conn_tot) (fun _=>?_)
 refine tot_cond (fun _=>eta_tot conn_tot) (fun hc=>?_)
 have hc':¬ (l.length:Int) < 8:=of_decide_eq_false hc
 have k1:∀ {b c d:Bool},Tot (PrtOk N) ((F_bytes_Clone l).bind fun l8=>some (l8,0,0,0,0,[],b,c,d,false,false,0)):=fun {b c d}=>tot_bind (clone_tot (Nat.le_trans hl hN)) fun x hx=>by
  subst hx
  exact tot_some (prt_blk hb hl)
 have k2:Tot (PrtOk N) ((F_part_number l).bind fun i13=>(cutI l 4 (l.length:Int)).bind fun l14=>(F_part_number l14).bind fun i15=>some (([]:List Int),0,i15,(bits .and .i64 i13 2147483647),0,([]:List (Int×Int)),false,false,false,false,false,0)):=by
  refine tot_bind (number_tot hb (by omega)) fun n hn=>?_
  rw [cut_tail (by omega) (by omega),Option.bind_some]
  refine tot_bind (number_tot hb.drop (by rw [List.length_drop];show 4<=l.length - 4;omega)) fun n hn=>?_
  exact tot_some prt_nil
 refine tot_cond (fun _=>?_) (fun _=>?_)
 ·refine tot_cond (fun _=>eta_tot conn_tot) (fun _=>?_)
  exact tot_cond (fun _=>k1) (fun _=>k2)
 ·exact tot_cond (fun _=>k1) (fun _=>k2)
theorem update_tot {N:Nat} {k fl s:Int} {l:List Int} (hb:Byt l):Tot (PrtOk N) (F_part_update k fl s l):=by
 unfold F_part_update
 refine tot_cond (fun _=>eta_tot conn_tot) (fun hc=>?_)
 have hl4:(l.length:Int)=4:=bne_eq_false_iff_eq.1 hc
 refine tot_bind (number_tot hb (by omega)) fun n hn=>?_
 obtain ⟨q0,q1⟩:=and31r hn.1 hn.2
 refine tot_cond (fun _=>?_) (fun _=>?_)
 ·refine tot_cond (fun _=>eta_tot conn_tot) (fun _=>?_)
  exact tot_cond (fun _=>eta_tot stream_tot) (fun _=>tot_some (prt_upd q0 q1))
 ·exact tot_cond (fun _=>eta_tot stream_tot) (fun _=>tot_some (prt_upd q0 q1))
theorem cloneP_tot {N:Nat} {l:List Int} {b c d:Bool} (hN:N<=16384) (hb:Byt l) (hl:l.length<=N):Tot (PrtOk N) ((F_bytes_Clone l).bind fun l8=>some (l8,0,0,0,0,[],b,c,d,false,false,0)):=tot_bind (clone_tot (Nat.le_trans hl hN)) fun x hx=>by
 subst hx
 exact tot_some (prt_blk hb hl)
set_option maxHeartbeats 4000000 in
theorem read_tot {N:Nat} {k fl s:Int} {l:List Int} (hN:N<=16384) (hb:Byt l) (hl:l.length<=N):Tot (PrtOk N) (F_part_Read k fl s l):=by
 unfold F_part_Read
 repeat' first
  | with_reducible refine tot_cond (fun _=>?_) (fun hc=>?_)
  | with_reducible exact tot_some prt_nil
  | with_reducible exact eta_tot conn_tot
  | with_reducible exact eta_tot stream_tot
  | with_reducible exact eta_tot (bodied_tot hN hb hl)
  | with_reducible exact eta_tot (settings_tot hN hb hl)
  | with_reducible exact eta_tot (whole_tot hN hb hl)
  | with_reducible exact eta_tot (update_tot hb)
  | with_reducible exact cloneP_tot hN hb hl
  | exact tot_bind (number_tot hb (by have:=bne_eq_false_iff_eq.1 hc;omega)) fun n _=>tot_some prt_nil
theorem wrong_ok (k v:Int):∃ e,F_sets_wrong k v=some e /\ (e=0->(k==4)=true->v<=2147483647):=by
 have key:Tot (fun e:Int=>e=0->(k==4)=true->v<=2147483647) (F_sets_wrong k v):=by
  unfold F_sets_wrong
  repeat' first
   | exact tot_some fun h=>absurd h (by decide)
   | exact tot_some fun _ h4=>(by simp_all;done)
   | exact tot_cond (fun h=>tot_some fun h=>absurd h (by decide)) (fun h=>tot_some fun _ _=>by have:=of_decide_eq_false h;omega)
   | refine tot_cond (fun _=>?_) (fun _=>?_)
 exact key
abbrev MW:=List (Int×Int)
abbrev St6:=Int×Int×Int×Int×Int×Int
abbrev Wz:=Int×Int×Int×Bool×Bool×Bool×Int×Int×Int×List (List (Int×Int))×St6×Int×Int×Bool
abbrev Sz:=Option Int×Bool×Bool×Bool×List Int
abbrev Dz:=Int×Bool
def Str (S:List Sz):List (Int×Int)->List (Int×Sz)->Prop
 | [],[]=>True
 | e::es,s::ms=>e.1=s.1 /\ getI S e.2=some s.2 /\ Str S es ms
 | _,_=>False
theorem str_keep {S S':List Sz}:∀ {es:List (Int×Int)} {ms:List (Int×Sz)},(∀ e∈es,∀ y,getI S e.2=some y->getI S' e.2=some y)->Str S es ms->Str S' es ms
 | [],[],_,_=>trivial
 | e::es,s::ms,h,⟨h1,h2,h3⟩=>⟨h1,h e List.mem_cons_self _ h2,str_keep (fun e he=>h e (List.mem_cons_of_mem _ he)) h3⟩
 | [],_::_,_,h=>h.elim
 | _::_,[],_,h=>h.elim
theorem str_mem {S:List Sz}:∀ {es:List (Int×Int)} {ms:List (Int×Sz)},Str S es ms -> ∀ e∈es,∃ y,getI S e.2=some y
 | [],[],_,e,he=>by cases he
 | a::es,s::ms,⟨h1,h2,h3⟩,e,he=>by
  rcases List.mem_cons.1 he with rfl | he
  ·exact ⟨_,h2⟩
  ·exact str_mem h3 e he
 | [],_::_,h,_,_=>h.elim
 | _::_,[],h,_,_=>h.elim
theorem str_get {S:List Sz} {k:Int}:∀ {es:List (Int×Int)} {ms:List (Int×Sz)},Str S es ms->(mapGet es k=none /\ mapGet ms k=none) \/ ∃ e s,mapGet es k=some e /\ mapGet ms k=some s /\ getI S e=some s /\ (∃ x∈es,x.2=e) /\ ∃ x∈ms,x.2=s
 | [],[],_=>.inl ⟨rfl,rfl⟩
 | a::es,b::ms,⟨h1,h2,h3⟩=>by
  unfold mapGet
  rw [h1]
  cases hk:eqI b.1 k with
  | true=>exact .inr ⟨a.2,b.2,rfl,rfl,h2,⟨a,List.mem_cons_self,rfl⟩,b,List.mem_cons_self,rfl⟩
  | false=>
   rcases str_get (k:=k) h3 with h | ⟨e,s,g1,g2,g3,⟨x,gx,gx2⟩,y,gy,gy2⟩
   ·exact .inl h
   ·exact .inr ⟨e,s,g1,g2,g3,⟨x,List.mem_cons_of_mem _ gx,gx2⟩,y,List.mem_cons_of_mem _ gy,gy2⟩
 | [],_::_,h=>h.elim
 | _::_,[],h=>h.elim
theorem str_upd {S:List Sz} {k e:Int} {s':Sz}:∀ {es:List (Int×Int)} {ms:List (Int×Sz)},Str S es ms->(es.map (·.2)).Nodup->mapGet es k=some e->Str (S.set e.toNat s') es (mapSet ms k s')
 | [],[],_,_,h=>by cases h
 | a::es,b::ms,⟨h1,h2,h3⟩,hn,h=>by
  rw [List.map_cons,List.nodup_cons] at hn
  unfold mapGet at h
  unfold mapSet
  rw [h1] at h
  cases hk:eqI b.1 k with
  | true=>
   rw [hk,cond_true] at h
   injection h with h
   subst h
   rw [cond_true]
   have hk':b.1=k:=of_decide_eq_true hk
   refine ⟨h1.trans hk',gi_set h2,str_keep (fun x hx y hy=>?_) h3⟩
   refine gi_ne (gi_some h2).1 (fun e=>hn.1 ?_) hy
   rw [List.mem_map]
   exact ⟨x,hx,e.symm⟩
  | false=>
   rw [hk,cond_false] at h
   rw [cond_false]
   have hin:e∈es.map (·.2):=by
    rcases str_get (k:=k) h3 with g | ⟨e',s,g1,g2,g3,⟨x,gx,gx2⟩,_⟩
    ·rw [g.1] at h;cases h
    ·rw [g1] at h
     injection h with h
     subst h
     exact List.mem_map.2 ⟨x,gx,gx2⟩
   have he0:0<=e:=by
    rcases str_get (k:=k) h3 with g | ⟨e',s,g1,g2,g3,_⟩
    ·rw [g.1] at h;cases h
    ·rw [g1] at h
     injection h with h
     subst h
     exact (gi_some g3).1
   refine ⟨h1,gi_ne he0 (fun hh=>hn.1 (hh ▸ hin)) h2,str_upd h3 hn.2 h⟩
 | [],_::_,h,_,_=>h.elim
 | _::_,[],h,_,_=>h.elim
theorem str_new {S:List Sz} {k:Int} {s':Sz}:∀ {es:List (Int×Int)} {ms:List (Int×Sz)},Str S es ms->Str (S++[s']) (mapSet es k (S.length:Int)) (mapSet ms k s')
 | [],[],_=>⟨rfl,gi_new,trivial⟩
 | a::es,b::ms,⟨h1,h2,h3⟩=>by
  unfold mapSet
  rw [h1]
  cases hk:eqI b.1 k with
  | true=>exact ⟨rfl,gi_new,str_keep (fun x hx y hy=>gi_app hy) h3⟩
  | false=>exact ⟨h1,gi_app h2,str_new h3⟩
 | [],_::_,h=>h.elim
 | _::_,[],h=>h.elim
theorem set_mem {α:Type} {k:Int} {v:α}:∀ {es:List (Int×α)} {x:Int×α},x∈mapSet es k v->x∈es \/ x.2=v
 | [],x,h=>.inr (by rcases List.mem_singleton.1 h with rfl;rfl)
 | a::es,x,h=>by
  unfold mapSet at h
  cases hk:eqI a.1 k with
  | true=>
   rw [hk,cond_true] at h
   rcases List.mem_cons.1 h with rfl | h
   ·exact .inr rfl
   ·exact .inl (List.mem_cons_of_mem _ h)
  | false=>
   rw [hk,cond_false] at h
   rcases List.mem_cons.1 h with rfl | h
   ·exact .inl List.mem_cons_self
   ·rcases set_mem h with h | h
    ·exact .inl (List.mem_cons_of_mem _ h)
    ·exact .inr h
theorem new_nodup {k n:Int}:∀ {es:List (Int×Int)},(es.map (·.2)).Nodup->(∀ e∈es,e.2 < n)->((mapSet es k n).map (·.2)).Nodup
 | [],_,_=>by
  unfold mapSet
  simp
 | a::es,hn,hl=>by
  rw [List.map_cons,List.nodup_cons] at hn
  unfold mapSet
  cases hk:eqI a.1 k with
  | true=>
   rw [cond_true,List.map_cons,List.nodup_cons]
   refine ⟨fun h=>?_,hn.2⟩
   obtain ⟨x,hx,hx2⟩:=List.mem_map.1 h
   have:=hl x (List.mem_cons_of_mem _ hx)
   have hx2':x.2=n:=hx2
   omega
  | false=>
   rw [cond_false,List.map_cons,List.nodup_cons]
   refine ⟨fun h=>?_,new_nodup hn.2 fun e he=>hl e (List.mem_cons_of_mem _ he)⟩
   obtain ⟨x,hx,hx2⟩:=List.mem_map.1 h
   have hx2':x.2=a.2:=hx2
   rcases set_mem hx with hx | hx
   ·exact hn.1 (List.mem_map.2 ⟨x,hx,hx2⟩)
   ·have:=hl a List.mem_cons_self
    omega
theorem set_some {α:Type} {l:List α} {e j:Int} {x y:α} (he:0<=e) (h:getI l j=some y):∃ z,getI (l.set e.toNat x) j=some z:=by
 by_cases hj:e=j
 ·subst hj;exact ⟨_,gi_set h⟩
 ·exact ⟨y,gi_ne he hj h⟩
structure Fp where
 (p i o m d t:Int)
structure Vw where
 (deaf blind bad:Bool)
 (highest window:Int)
 waits:List (List (Int×Int))
 sets:St6
 frames:Int
 (gone dead:Bool)
 tab:Tb
 ms:List (Int×Sz)
def wOf (f:Fp) (V:Vw) (h:Int):Wz:=(h,f.i,f.o,V.deaf,V.blind,V.bad,V.highest,f.m,V.window,V.waits,V.sets,f.d,V.frames,V.gone)
structure Hw (f:Fp) (es:MW) (M:List MW) (W:List Wz) (S:List Sz) (D:List Dz) (T:List Tb) (V:Vw) (h:Int):Prop where
 hW:getI W f.p=some (wOf f V h)
 hM:getI M f.m=some es
 hS:Str S es V.ms
 hn:(es.map (·.2)).Nodup
 hD:getI D f.d=some (f.t,V.dead)
 hT:getI T f.t=some V.tab
structure Kp (f:Fp) (es es':MW) (M:List MW) (W:List Wz) (S:List Sz) (D:List Dz) (T:List Tb) (M':List MW) (W':List Wz) (S':List Sz) (D':List Dz) (T':List Tb):Prop where
 kM:∀ j y,j≠f.m->getI M j=some y->getI M' j=some y
 kW:∀ j y,j≠f.p->getI W j=some y->getI W' j=some y
 kS:∀ j y,(∀ e∈es,e.2≠j)->getI S j=some y->getI S' j=some y
 kD:∀ j y,j≠f.d->getI D j=some y->getI D' j=some y
 kT:∀ j y,j≠f.t->getI T j=some y->getI T' j=some y
 ke:∀ e∈es',(∃ e0∈es,e0.2=e.2) \/ getI S e.2=none
 kL:∀ j y,getI S j=some y -> ∃ z,getI S' j=some z
theorem kp_refl {f:Fp} {es:MW} {M:List MW} {W:List Wz} {S:List Sz} {D:List Dz} {T:List Tb}:Kp f es es M W S D T M W S D T:=⟨fun _ _ _ h=>h,fun _ _ _ h=>h,fun _ _ _ h=>h,fun _ _ _ h=>h,fun _ _ _ h=>h,fun e he=>.inl ⟨e,he,rfl⟩,fun j y h=>⟨y,h⟩⟩
theorem gi_none_mono {α:Type} {l l':List α} {j:Int} (h:∀ y,getI l j=some y -> ∃ z,getI l' j=some z) (hn:getI l' j=none):getI l j=none:=by
 cases hl:getI l j with
 | none=>rfl
 | some y=>
  obtain ⟨z,hz⟩:=h y hl
  rw [hz] at hn;cases hn
structure Dj (f g:Fp) (es es':MW):Prop where
 dp:g.p≠f.p
 di:g.i≠f.i /\ g.i≠f.o /\ g.o≠f.i /\ g.o≠f.o
 dm:g.m≠f.m
 dd:g.d≠f.d
 dt:g.t≠f.t
 de:∀ e∈es,∀ e'∈es',e.2≠e'.2
theorem Dj.symm {f g:Fp} {es es':MW} (h:Dj f g es es'):Dj g f es' es:=⟨h.dp.symm,⟨h.di.1.symm,h.di.2.2.1.symm,h.di.2.1.symm,h.di.2.2.2.symm⟩,h.dm.symm,h.dd.symm,h.dt.symm,fun e he e' he'=>(h.de e' he' e he).symm⟩
section
variable {f g : Fp} {es es' eg : MW} {M M' : List MW} {W W' : List Wz} {S S' : List Sz} {D D' : List Dz} {T T' : List Tb} {V V' : Vw} {h : Int}
theorem hw_other (hk:Kp f es es' M W S D T M' W' S' D' T') (hd:Dj f g es eg) (hh:Hw g eg M W S D T V h):Hw g eg M' W' S' D' T' V h /\ Dj f g es' eg:=by
 refine ⟨⟨hk.kW _ _ hd.dp hh.hW,hk.kM _ _ hd.dm hh.hM,str_keep (fun e he y hy=>hk.kS _ _ (fun e0 he0=>hd.de e0 he0 e he) hy) hh.hS,hh.hn,hk.kD _ _ hd.dd hh.hD,hk.kT _ _ hd.dt hh.hT⟩,⟨hd.dp,hd.di,hd.dm,hd.dd,hd.dt,fun e he e' he'=>?_⟩⟩
 rcases hk.ke e he with ⟨e0,h0,h1⟩ | h1
 ·rw [<-h1]
  exact hd.de e0 h0 e' he'
 ·intro heq
  obtain ⟨y,hy⟩:=str_mem hh.hS e' he'
  rw [heq,hy] at h1
  cases h1
theorem hw_w (hh:Hw f es M W S D T V h) (w:Wz) (hw:w=wOf f V' h) (e1:V'.ms=V.ms) (e2:V'.dead=V.dead) (e3:V'.tab=V.tab):Hw f es M (W.set f.p.toNat w) S D T V' h:=by
 subst hw
 exact ⟨gi_set hh.hW,hh.hM,e1 ▸ hh.hS,hh.hn,e2 ▸ hh.hD,e3 ▸ hh.hT⟩
theorem kp_w (hp:0<=f.p) (w:Wz):Kp f es es M W S D T M (W.set f.p.toNat w) S D T:=⟨fun _ _ _ h=>h,fun j y hj h=>gi_ne hp (Ne.symm hj) h,fun _ _ _ h=>h,fun _ _ _ h=>h,fun _ _ _ h=>h,fun e he=>.inl ⟨e,he,rfl⟩,fun j y h=>⟨y,h⟩⟩
theorem hw_s (hh:Hw f es M W S D T V h) {k e:Int} {s':Sz} (hg:mapGet es k=some e) (e1:V'.ms=mapSet V.ms k s') (e2:V'.dead=V.dead) (e3:V'.tab=V.tab) (e4:wOf f V' h=wOf f V h):Hw f es M W (S.set e.toNat s') D T V' h:=
 ⟨by rw [e4];exact hh.hW,hh.hM,by rw [e1];exact str_upd hh.hS hh.hn hg,hh.hn,e2 ▸ hh.hD,e3 ▸ hh.hT⟩
theorem kp_s (hh:Hw f es M W S D T V h) {k e:Int} {s':Sz} (hg:mapGet es k=some e):Kp f es es M W S D T M W (S.set e.toNat s') D T:=by
 rcases str_get (k:=k) hh.hS with g | ⟨e',s,g1,g2,g3,⟨x,gx,gx2⟩,_⟩
 ·rw [g.1] at hg;cases hg
 ·rw [g1] at hg
  injection hg with hg
  subst hg
  exact ⟨fun _ _ _ h=>h,fun _ _ _ h=>h,fun j y hj h=>gi_ne (gi_some g3).1 (gx2 ▸ hj x gx) h,fun _ _ _ h=>h,fun _ _ _ h=>h,fun e he=>.inl ⟨e,he,rfl⟩,fun j y hj=>set_some (gi_some g3).1 hj⟩
theorem kp_trans {e2:MW} {M2:List MW} {W2:List Wz} {S2:List Sz} {D2:List Dz} {T2:List Tb} (h1:Kp f es es' M W S D T M' W' S' D' T') (h2:Kp f es' e2 M' W' S' D' T' M2 W2 S2 D2 T2) (hS:∀ j y,getI S j=some y -> ∃ z,getI S' j=some z):Kp f es e2 M W S D T M2 W2 S2 D2 T2:=by
 refine ⟨fun j y hj h=>h2.kM j y hj (h1.kM j y hj h),fun j y hj h=>h2.kW j y hj (h1.kW j y hj h),fun j y hj h=>h2.kS j y (fun e he=>?_) (h1.kS j y hj h),fun j y hj h=>h2.kD j y hj (h1.kD j y hj h),fun j y hj h=>h2.kT j y hj (h1.kT j y hj h),fun e he=>?_,fun j y hj=>?_⟩
 ·rcases h1.ke e he with ⟨e0,g0,g1⟩ | g
  ·rw [<-g1];exact hj e0 g0
  ·intro hh
   rw [hh,h] at g
   cases g
 ·rcases h2.ke e he with ⟨e0,g0,g1⟩ | g
  ·rcases h1.ke e0 g0 with ⟨e3,g3,g4⟩ | g4
   ·exact .inl ⟨e3,g3,g4.trans g1⟩
   ·exact .inr (by rw [<-g1];exact g4)
  ·exact .inr (gi_none_mono (fun y hy=>hS _ y hy) g)
 ·obtain ⟨z,hz⟩:=hS j y hj
  exact h2.kL j z hz
theorem kp_comp {e2:MW} {M2:List MW} {W2:List Wz} {S2:List Sz} {D2:List Dz} {T2:List Tb} (h1:Kp f es es' M W S D T M' W' S' D' T') (h2:Kp f es' e2 M' W' S' D' T' M2 W2 S2 D2 T2):Kp f es e2 M W S D T M2 W2 S2 D2 T2:=kp_trans h1 h2 h1.kL
end
structure VOk (c:Nat) (V:Vw):Prop where
 tab:TabOk V.tab
 win:InW V.window
 set4:0<=V.sets.2.2.2.1 /\ V.sets.2.2.2.1<=2147483647
 wts:∀ w∈V.waits,(∀ q∈w,0<=q.2 /\ q.2 < 4294967296) /\ w.length<=16384
 nw:V.waits.length<=c
 str:V.blind=true \/ ∀ s∈V.ms,∃ n,s.2.1=some n /\ InW n
 dat:∀ s∈V.ms,s.2.2.2.2.2.length<=c
theorem inW0:InW 0:=⟨by decide,by decide⟩
theorem fz0:((0,0):Nat×Nat)=fz 0 0:=by unfold fz;rw [fl_zero]
theorem conn0:F_flow_Conn (0,0)=some 0:=by rw [fz0];exact conn_in inW0 inW0
theorem stream0:F_flow_Stream (0,0)=some 0:=by rw [fz0];exact stream_in inW0 inW0
theorem VOk.mono {c c':Nat} {V:Vw} (h:VOk c V) (hc:c<=c'):VOk c' V:=⟨h.tab,h.win,h.set4,h.wts,Nat.le_trans h.nw hc,h.str,fun s hs=>Nat.le_trans (h.dat s hs) hc⟩
def HrR (V V':Vw) (F:Fp->List MW->List Wz->List Sz->Option (List MW×List Wz×List Sz)):Prop:=∀ (f:Fp) (es:MW) (M:List MW) (W:List Wz) (S:List Sz) (D:List Dz) (T:List Tb) (h:Int),Hw f es M W S D T V h ->
 ∃ es' M' W' S',F f M W S=some (M',W',S') /\ Hw f es' M' W' S' D T V' h /\ Kp f es es' M W S D T M' W' S' D T
theorem hrr_same {V:Vw} {F} (h:∀ (f:Fp) (M:List MW) (W:List Wz) (S:List Sz) (h:Int),getI W f.p=some (wOf f V h)->F f M W S=some (M,W,S)):HrR V V F:=fun f es M W S D T hd hh=>⟨es,M,W,S,h f M W S hd hh.hW,hh,kp_refl⟩
theorem hrr_w {V V':Vw} {F} (e1:V'.ms=V.ms) (e2:V'.dead=V.dead) (e3:V'.tab=V.tab) (h:∀ (f:Fp) (M:List MW) (W:List Wz) (S:List Sz) (h:Int),getI W f.p=some (wOf f V h)->F f M W S=some (M,W.set f.p.toNat (wOf f V' h),S)):HrR V V' F:=fun f es M W S D T hd hh=>⟨es,M,_,S,h f M W S hd hh.hW,hw_w hh _ rfl e1 e2 e3,kp_w (gi_some hh.hW).1 _⟩
theorem ne_m1 {e:Int} (h:0<=e):eqI e (-1)=false:=beq_eq_false_iff_ne.2 (by omega)
theorem mg_mem {α:Type} {k:Int} {v:α}:∀ {ms:List (Int×α)},mapGet ms k=some v -> ∃ x∈ms,x.2=v
 | [],h=>by cases h
 | a::r,h=>by
  unfold mapGet at h
  cases hk:eqI a.1 k with
  | true=>rw [hk,cond_true] at h;injection h with h;exact ⟨a,List.mem_cons_self,h⟩
  | false=>
   rw [hk,cond_false] at h
   obtain ⟨x,hx,hx2⟩:=mg_mem h
   exact ⟨x,List.mem_cons_of_mem _ hx,hx2⟩
theorem granted_ok {c:Nat} {V:Vw} {s n:Int} (hV:VOk c V) (hb:V.blind=false) (h0:0<=n) (h1:n<=2147483647):∃ V',VOk c V' /\ V'.bad=V.bad /\ HrR V V' (fun f M W S=>(F_watch_Watch_granted f.p s n M W S).bind fun x=>some (M,x.1,x.2)):=by
 have w1:=hV.win.1
 have w2:=hV.win.2
 cases hs:(s==0) with
 | true=>
  obtain ⟨o,ho⟩:∃ o,decide (V.window+n > 2147483647)=o:=⟨_,rfl⟩
  refine ⟨{V with window:=cond o 0 (V.window+n),blind:=o},⟨hV.tab,?_,hV.set4,hV.wts,hV.nw,?_,hV.dat⟩,rfl,?_⟩
  ·cases o with
   | true=>exact inW0
   | false=>
    have:=of_decide_eq_false ho
    exact ⟨show -2147483647<=V.window+n by omega,show V.window+n<=2147483647 by omega⟩
  ·rcases hV.str with h | h
   ·rw [hb] at h;cases h
   ·exact .inr h
  ·refine hrr_w rfl rfl rfl fun f M W S h hW=>?_
   have hW':getI W f.p=some (h,f.i,f.o,V.deaf,V.blind,V.bad,V.highest,f.m,V.window,V.waits,V.sets,f.d,V.frames,V.gone):=hW
   have hp:=gi_nn hW
   have hg:F_watch_Watch_granted f.p s n M W S=some (W.set f.p.toNat (wOf f {V with window:=cond o 0 (V.window+n),blind:=o} h),S):=by
    unfold F_watch_Watch_granted chk
    rw [hs,cond_true]
    simp only [hp,cond_true,hW',Option.bind_some,windows_in inW0 hV.win,grant_in inW0 hV.win (Int.le_refl 0) (by decide) h0 h1,ho]
    cases o with
    | true=>simp only [cond_true,conn0,Option.bind_some,gi_set hW',st_two];rfl
    | false=>
     have:=of_decide_eq_false ho
     have hiw:InW (V.window+n):=⟨by omega,by omega⟩
     rw [cond_false,decide_eq_false (show ¬ (0:Int)+0 > 2147483647 by decide),cond_false]
     simp only [Int.add_zero,conn_in inW0 hiw,Option.bind_some,gi_set hW',st_two]
     rfl
   rw [hg]
   rfl
 | false=>
  cases hg:mapGet V.ms s with
  | none=>
   refine ⟨V,hV,rfl,fun f es M W S D T h hh=>⟨es,M,W,S,?_,hh,kp_refl⟩⟩
   have hW':getI W f.p=some (h,f.i,f.o,V.deaf,V.blind,V.bad,V.highest,f.m,V.window,V.waits,V.sets,f.d,V.frames,V.gone):=hh.hW
   have hp:=gi_nn hW'
   have hge:mapGet es s=none:=by
    rcases str_get (k:=s) hh.hS with g | ⟨e',s',g1,g2,_⟩
    ·exact g.1
    ·rw [g2] at hg;cases hg
   have hz:eqI (getZ (none:Option Int) (-1)) (-1)=true:=rfl
   unfold F_watch_Watch_granted chk
   simp only [hs,cond_false,hp,cond_true,hW',Option.bind_some,hh.hM,hge,hz,Bool.not_true]
  | some s0=>
   have hmem:=mg_mem hg
   obtain ⟨x0,hx0,hx1⟩:=hmem
   obtain ⟨n0,hn0,hin⟩:∃ n,s0.1=some n /\ InW n:=by
    rcases hV.str with h | h
    ·rw [hb] at h;cases h
    ·obtain ⟨n,a1,a2⟩:=h x0 hx0
     rw [hx1] at a1
     exact ⟨n,a1,a2⟩
   obtain ⟨o,ho⟩:∃ o,decide (n0+n > 2147483647)=o:=⟨_,rfl⟩
   have i1:=hin.1
   have i2:=hin.2
   have hiw:InW (cond o 0 (n0+n)):=by
    cases o with
    | true=>exact inW0
    | false=>
     have:=of_decide_eq_false ho
     exact ⟨show -2147483647<=n0+n by omega,show n0+n<=2147483647 by omega⟩
   refine ⟨{V with blind:=o,ms:=mapSet V.ms s (some (cond o 0 (n0+n)),s0.2)},⟨hV.tab,hV.win,hV.set4,hV.wts,hV.nw,.inr fun y hy=>?_,fun y hy=>?_⟩,rfl,?_⟩
   ·rcases set_mem hy with hy | hy
    ·rcases hV.str with h | h
     ·rw [hb] at h;cases h
     ·exact h y hy
    ·rw [hy];exact ⟨_,rfl,hiw⟩
   ·rcases set_mem hy with hy | hy
    ·exact hV.dat y hy
    ·rw [hy]
     have:=hV.dat x0 hx0
     rw [hx1] at this
     exact this
   ·intro f es M W S D T h hh
    have hW':getI W f.p=some (h,f.i,f.o,V.deaf,V.blind,V.bad,V.highest,f.m,V.window,V.waits,V.sets,f.d,V.frames,V.gone):=hh.hW
    have hp:=gi_nn hW'
    rcases str_get (k:=s) hh.hS with g | ⟨e,s',g1,g2,g3,_,_⟩
    ·rw [g.2] at hg;cases hg
    ·rw [hg] at g2
     injection g2 with g2
     subst g2
     have he0:=(gi_some g3).1
     have g3':getI S e=some (some n0,s0.2):=by rw [g3,<- hn0]
     have hz:getZ (some e) (-1:Int)=e:=rfl
     have hgr:F_watch_Watch_granted f.p s n M W S=some (W.set f.p.toNat (wOf f {V with blind:=o} h),S.set e.toNat (some (cond o 0 (n0+n)),s0.2)):=by
      unfold F_watch_Watch_granted chk
      simp only [hs,cond_false,hp,cond_true,hW',Option.bind_some,hh.hM,g1,hz,ne_m1 he0,Bool.not_false,gi_nn g3,g3',windows_in hin inW0,grant_in hin inW0 h0 h1 (Int.le_refl 0) (by decide)]
      rw [decide_eq_false (show ¬ (0:Int)+0 > 2147483647 by decide),cond_false,ho]
      cases o with
      | true=>simp only [cond_true,stream0,Option.bind_some];rfl
      | false=>
       simp only [cond_false,Int.add_zero] at hiw ⊢
       rw [stream_in hiw inW0,Option.bind_some]
       rfl
     refine ⟨es,M,_,_,(by show (F_watch_Watch_granted f.p s n M W S).bind _=_;rw [hgr];rfl),hw_w (V':={V with blind:=o,ms:=mapSet V.ms s (some (cond o 0 (n0+n)),s0.2)}) (hw_s (V':={V with ms:=mapSet V.ms s (some (cond o 0 (n0+n)),s0.2)}) hh g1 rfl rfl rfl rfl) _ rfl rfl rfl rfl,kp_trans (kp_s hh g1) (kp_w (gi_some hh.hW).1 _) fun j y hj=>set_some he0 hj⟩
theorem hears_ok {c:Nat} {V:Vw} {k fl s:Int} {body:List Int} (hf:FrOk k fl s body) (hV:VOk c V) (hc:c<=10000000) (hb:V.blind=false):∃ V',VOk (c+1) V' /\ V'.bad=V.bad /\ HrR V V' (fun f M W S=>F_watch_Watch_hears f.p k fl s body M W S):=by
 obtain ⟨x,hR,hx1,hx2,hx3,hx4,hx5,hx6⟩:=read_tot (N:=body.length) (k:=k) (fl:=fl) (s:=s) hf.2.2.2.2 hf.2.2.2.1 (Nat.le_refl _)
 have same:∀ {F:Fp->List MW->List Wz->List Sz->Option (List MW×List Wz×List Sz)},(∀ (f:Fp) (M:List MW) (W:List Wz) (S:List Sz) (h:Int),getI W f.p=some (wOf f V h)->F f M W S=some (M,W,S)) -> ∃ V',VOk (c+1) V' /\ V'.bad=V.bad /\ HrR V V' F:=fun h=>⟨V,hV.mono (Nat.le_succ c),rfl,hrr_same h⟩
 cases h1:(k==1) with
 | true=>
  cases h2:(Int.tmod s 2==1) with
  | false=>
   refine same fun f M W S h hW=>?_
   unfold F_watch_Watch_hears
   simp only [hR,Option.bind_some,h1,cond_true,h2,cond_false]
  | true=>
   cases h3:decide (s > V.highest) with
   | false=>
    refine same fun f M W S h hW=>?_
    have hW':getI W f.p=some (h,f.i,f.o,V.deaf,V.blind,V.bad,V.highest,f.m,V.window,V.waits,V.sets,f.d,V.frames,V.gone):=hW
    have hp:=gi_nn hW
    unfold F_watch_Watch_hears chk
    simp only [hR,Option.bind_some,h1,cond_true,h2,hp,hW',h3,cond_false]
   | true=>
    refine ⟨{V with highest:=s,ms:=mapSet V.ms s (some V.sets.2.2.2.1,(false,(false,(false,[]))))},⟨hV.tab,hV.win,hV.set4,hV.wts,Nat.le_succ_of_le hV.nw,.inr fun y hy=>?_,fun y hy=>?_⟩,rfl,?_⟩
    ·rcases set_mem hy with hy | hy
     ·rcases hV.str with h | h
      ·rw [hb] at h;cases h
      ·exact h y hy
     ·rw [hy]
      exact ⟨_,rfl,⟨by have:=hV.set4.1;omega,hV.set4.2⟩⟩
    ·rcases set_mem hy with hy | hy
     ·exact Nat.le_succ_of_le (hV.dat y hy)
     ·rw [hy];exact Nat.zero_le _
    ·intro f es M W S D T h hh
     have hW':getI W f.p=some (h,f.i,f.o,V.deaf,V.blind,V.bad,V.highest,f.m,V.window,V.waits,V.sets,f.d,V.frames,V.gone):=hh.hW
     have hp:=gi_nn hW'
     have hp0:=(gi_some hh.hW).1
     have hm0:=(gi_some hh.hM).1
     refine ⟨mapSet es s (S.length:Int),M.set f.m.toNat (mapSet es s (S.length:Int)),W.set f.p.toNat (wOf f {V with highest:=s} h),S++[(some V.sets.2.2.2.1,(false,(false,(false,[]))))],?_,⟨gi_set hh.hW,gi_set hh.hM,str_new hh.hS,new_nodup hh.hn fun e he=>?_,hh.hD,hh.hT⟩,⟨fun j y hj h=>gi_ne hm0 (Ne.symm hj) h,fun j y hj h=>gi_ne hp0 (Ne.symm hj) h,fun j y hj h=>gi_app h,fun _ _ _ h=>h,fun _ _ _ h=>h,fun e he=>?_,fun j y hj=>⟨y,gi_app hj⟩⟩⟩
     ·show F_watch_Watch_hears f.p k fl s body M W S=_
      unfold F_watch_Watch_hears chk
      simp only [hR,Option.bind_some,h1,cond_true,h2,hp,hW',h3,gi_set hW',hh.hM]
      rfl
     ·obtain ⟨y,hy⟩:=str_mem hh.hS e he
      exact (gi_some hy).2.1
     ·rcases set_mem he with he | he
      ·exact .inl ⟨e,he,rfl⟩
      ·rw [he]
       refine .inr ?_
       cases hq:getI S (S.length:Int) with
       | none=>rfl
       | some y=>have:=(gi_some hq).2.1;omega
 | false=>
  cases h4:(k==4) with
  | true=>
   cases h5:x.2.2.2.2.2.2.2.2.2.1 with
   | true=>
    refine same fun f M W S h hW=>?_
    unfold F_watch_Watch_hears
    simp only [hR,Option.bind_some,h1,cond_false,h4,cond_true,h5,Bool.not_true]
   | false=>
    cases h6:x.2.2.2.2.2.2.2.1 with
    | true=>
     refine same fun f M W S h hW=>?_
     unfold F_watch_Watch_hears
     simp only [hR,Option.bind_some,h1,cond_false,h4,cond_true,h5,Bool.not_false,h6,Bool.not_true]
    | false=>
     refine ⟨{V with waits:=V.waits++[x.2.2.2.2.2.1]},⟨hV.tab,hV.win,hV.set4,fun w hw=>?_,?_,hV.str,fun y hy=>Nat.le_succ_of_le (hV.dat y hy)⟩,rfl,hrr_w rfl rfl rfl fun f M W S h hW=>?_⟩
     ·rcases List.mem_append.1 hw with hw | hw
      ·exact hV.wts w hw
      ·rcases List.mem_singleton.1 hw with rfl
       exact ⟨hx5,hx6⟩
     ·show (V.waits++[_]).length<=c+1
      rw [List.length_append]
      exact Nat.succ_le_succ hV.nw
     ·have hW':getI W f.p=some (h,f.i,f.o,V.deaf,V.blind,V.bad,V.highest,f.m,V.window,V.waits,V.sets,f.d,V.frames,V.gone):=hW
      have hp:=gi_nn hW
      have hck:(decide ((V.waits.length+([x.2.2.2.2.2.1]:List (List (Int×Int))).length)*24<=140737488355328)&&decide (V.waits.length+([x.2.2.2.2.2.1]:List (List (Int×Int))).length<=maxLen))=true:=by
       have hm:maxLen=9223372036854775807:=rfl
       have:=hV.nw
       simp only [List.length_cons,List.length_nil]
       rw [Bool.and_eq_true,decide_eq_true_iff,decide_eq_true_iff];omega
      unfold F_watch_Watch_hears chk
      simp only [hR,Option.bind_some,h1,cond_false,h4,cond_true,h5,Bool.not_false,h6,hp,hW',hck,eqI_self]
      rfl
  | false=>
   cases h8:(k==8) with
   | true=>
    cases h5:x.2.2.2.2.2.2.2.2.2.1 with
    | true=>
     refine same fun f M W S h hW=>?_
     unfold F_watch_Watch_hears
     simp only [hR,Option.bind_some,h1,cond_false,h4,h8,cond_true,h5,Bool.not_true]
    | false=>
     obtain ⟨V',hV',hbad,hg⟩:=granted_ok (s:=s) hV hb hx3 hx4
     refine ⟨V',hV'.mono (Nat.le_succ c),hbad,fun f es M W S D T h hh=>?_⟩
     obtain ⟨es',M',W',S',e,r⟩:=hg f es M W S D T h hh
     refine ⟨es',M',W',S',?_,r⟩
     have e':(F_watch_Watch_granted f.p s x.2.2.2.2.1 M W S).bind (fun x=>some (M,x.1,x.2))=some (M',W',S'):=e
     show F_watch_Watch_hears f.p k fl s body M W S=_
     unfold F_watch_Watch_hears
     simp only [hR,Option.bind_some,h1,cond_false,h4,h8,cond_true,h5,Bool.not_false,e']
   | false=>
    refine same fun f M W S h hW=>?_
    unfold F_watch_Watch_hears
    simp only [hR,Option.bind_some,h1,cond_false,h4,h8]
abbrev OutF:=Fp->List MW->List Wz->List Sz->List Dz->List Tb->List Bk->Option (Bool×List Wz×List Sz×List Dz×List Tb×List Bk)
def OutR (V V':Vw) (ok:Bool) (F:OutF):Prop:=∀ (f:Fp) (es:MW) (M:List MW) (W:List Wz) (S:List Sz) (D:List Dz) (T:List Tb) (B:List Bk) (h:Int),Hw f es M W S D T V h ->
 ∃ W' S' D' T' B',F f M W S D T B=some (ok,W',S',D',T',B') /\ Hw f es M W' S' D' T' V' h /\ Kp f es es M W S D T M W' S' D' T'
theorem ck1' {n m:Nat} (h:n+m<=1000000000):(decide ((n+m)*1<=140737488355328)&&decide (n+m<=maxLen))=true:=by
 have hm:maxLen=9223372036854775807:=rfl
 rw [Bool.and_eq_true,decide_eq_true_iff,decide_eq_true_iff];omega
theorem outr_same {V:Vw} {ok:Bool} {F:OutF} (h:∀ (f:Fp) (es:MW) (M:List MW) (W:List Wz) (S:List Sz) (D:List Dz) (T:List Tb) (B:List Bk) (h:Int),Hw f es M W S D T V h->F f M W S D T B=some (ok,W,S,D,T,B)):OutR V V ok F:=fun f es M W S D T B hd hh=>⟨W,S,D,T,B,h f es M W S D T B hd hh,hh,kp_refl⟩
theorem live_ok (V:Vw) (k:Int):(∀ (f:Fp) (es:MW) (M:List MW) (W:List Wz) (S:List Sz) (D:List Dz) (T:List Tb) (h:Int),Hw f es M W S D T V h->F_watch_Watch_live f.p k M W S=some (-1)) \/
  ∃ s0,mapGet V.ms k=some s0 /\ ∀ (f:Fp) (es:MW) (M:List MW) (W:List Wz) (S:List Sz) (D:List Dz) (T:List Tb) (h:Int),Hw f es M W S D T V h -> ∃ e,mapGet es k=some e /\ getI S e=some s0 /\ 0<=e /\ F_watch_Watch_live f.p k M W S=some e:=by
 cases hg:mapGet V.ms k with
 | none=>
  refine .inl fun f es M W S D T h hh=>?_
  have hW':getI W f.p=some (h,f.i,f.o,V.deaf,V.blind,V.bad,V.highest,f.m,V.window,V.waits,V.sets,f.d,V.frames,V.gone):=hh.hW
  have hp:=gi_nn hW'
  rcases str_get (k:=k) hh.hS with g | ⟨e,s',g1,g2,g3,_⟩
  ·have hz:eqI (getZ (none:Option Int) (-1)) (-1)=true:=rfl
   unfold F_watch_Watch_live chk
   simp only [hp,cond_true,hW',Option.bind_some,hh.hM,g.1,hz,Bool.not_true,cond_false]
  ·rw [g2] at hg;cases hg
 | some s0=>
  have one:∀ (f:Fp) (es:MW) (M:List MW) (W:List Wz) (S:List Sz) (D:List Dz) (T:List Tb) (h:Int),Hw f es M W S D T V h -> ∃ e,mapGet es k=some e /\ getI S e=some s0 /\ 0<=e /\ F_watch_Watch_live f.p k M W S=cond (!s0.2.2.1) (cond (!s0.2.2.2.1) (some e) (some (-1))) (some (-1)):=by
   intro f es M W S D T h hh
   have hW':getI W f.p=some (h,f.i,f.o,V.deaf,V.blind,V.bad,V.highest,f.m,V.window,V.waits,V.sets,f.d,V.frames,V.gone):=hh.hW
   have hp:=gi_nn hW'
   rcases str_get (k:=k) hh.hS with g | ⟨e,s',g1,g2,g3,_⟩
   ·rw [g.2] at hg;cases hg
   ·rw [hg] at g2
    injection g2 with g2
    subst g2
    have he0:=(gi_some g3).1
    have hz:getZ (some e) (-1:Int)=e:=rfl
    refine ⟨e,g1,g3,he0,?_⟩
    unfold F_watch_Watch_live chk
    simp only [hp,cond_true,hW',Option.bind_some,hh.hM,g1,hz,ne_m1 he0,Bool.not_false,gi_nn g3,g3]
  cases h1:s0.2.2.1 with
  | true=>
   refine .inl fun f es M W S D T h hh=>?_
   obtain ⟨e,_,_,_,h4⟩:=one f es M W S D T h hh
   rw [h4,h1];rfl
  | false=>
   cases h2:s0.2.2.2.1 with
   | true=>
    refine .inl fun f es M W S D T h hh=>?_
    obtain ⟨e,_,_,_,h4⟩:=one f es M W S D T h hh
    rw [h4,h1,h2];rfl
   | false=>
    refine .inr ⟨s0,rfl,fun f es M W S D T h hh=>?_⟩
    obtain ⟨e,g1,g2,g3,h4⟩:=one f es M W S D T h hh
    exact ⟨e,g1,g2,g3,by rw [h4,h1,h2];rfl⟩
theorem hw_d {f:Fp} {es:MW} {M:List MW} {W:List Wz} {S:List Sz} {D:List Dz} {T:List Tb} {V:Vw} {h:Int} (hh:Hw f es M W S D T V h) (dd:Bool) (tt:Tb):Hw f es M W S (D.set f.d.toNat (f.t,dd)) (T.set f.t.toNat tt) {V with dead:=dd,tab:=tt} h /\ Kp f es es M W S D T M W S (D.set f.d.toNat (f.t,dd)) (T.set f.t.toNat tt):=
 ⟨⟨hh.hW,hh.hM,hh.hS,hh.hn,gi_set hh.hD,gi_set hh.hT⟩,⟨fun _ _ _ h=>h,fun _ _ _ h=>h,fun _ _ _ h=>h,fun j y hj h=>gi_ne (gi_some hh.hD).1 (Ne.symm hj) h,fun j y hj h=>gi_ne (gi_some hh.hT).1 (Ne.symm hj) h,fun e he=>.inl ⟨e,he,rfl⟩,fun j y hj=>⟨y,hj⟩⟩⟩
theorem vok_d {c:Nat} {V:Vw} (hV:VOk c V) (dd:Bool) {tt:Tb} (ht:TabOk tt):VOk c {V with dead:=dd,tab:=tt}:=⟨ht,hV.win,hV.set4,hV.wts,hV.nw,hV.str,hV.dat⟩
theorem vok_s {c c':Nat} {V:Vw} (hV:VOk c V) (hc:c<=c') {k:Int} {s':Sz} (h1:V.blind=true \/ ∃ n,s'.1=some n /\ InW n) (h2:s'.2.2.2.2.length<=c'):VOk c' {V with ms:=mapSet V.ms k s'}:=by
 refine ⟨hV.tab,hV.win,hV.set4,hV.wts,Nat.le_trans hV.nw hc,?_,fun y hy=>?_⟩
 ·rcases h1 with h1 | h1
  ·exact .inl h1
  ·rcases hV.str with h | h
   ·exact .inl h
   ·refine .inr fun y hy=>?_
    rcases set_mem hy with hy | hy
    ·exact h y hy
    ·rw [hy];exact h1
 ·rcases set_mem hy with hy | hy
  ·exact Nat.le_trans (hV.dat y hy) hc
  ·rw [hy];exact h2
theorem answers_ok {c:Nat} {V:Vw} {k fl s:Int} {l frag:List Int} (hV:VOk c V) (hb:V.blind=false) (hfb:Byt frag) (hfl:frag.length<=16384) (i7 i9 i10 i11:Int) (l12:List (Int×Int)) (b13 b14 b15:Bool) :
  ∃ V' ok,VOk c V' /\ V'.deaf=V.deaf /\ OutR V V' ok (fun f M W S D T B=>(F_watch_Watch_answers f.p k fl s l frag i7 i9 i10 i11 l12 b13 b14 b15 M W S D T B).bind fun x=>some (x.1,W,x.2.1,x.2.2.1,x.2.2.2.1,x.2.2.2.2)):=by
 rcases live_ok V s with hl | ⟨s0,hms,hl⟩
 ·refine ⟨V,false,hV,rfl,outr_same fun f es M W S D T B h hh=>?_⟩
  show (F_watch_Watch_answers _ _ _ _ _ _ _ _ _ _ _ _ _ _ _ _ _ _ _ _).bind _=_
  unfold F_watch_Watch_answers
  rw [hl f es M W S D T h hh,Option.bind_some,show eqI (-1) (-1)=true from rfl,cond_true]
  rfl
 ·cases h1:decide ((l.length:Int) > V.sets.2.2.2.2.1) with
  | true=>
   refine ⟨V,false,hV,rfl,outr_same fun f es M W S D T B h hh=>?_⟩
   obtain ⟨e,_,_,he0,hlv⟩:=hl f es M W S D T h hh
   have hW':getI W f.p=some (h,f.i,f.o,V.deaf,V.blind,V.bad,V.highest,f.m,V.window,V.waits,V.sets,f.d,V.frames,V.gone):=hh.hW
   have hp:=gi_nn hW'
   show (F_watch_Watch_answers _ _ _ _ _ _ _ _ _ _ _ _ _ _ _ _ _ _ _ _).bind _=_
   unfold F_watch_Watch_answers chk
   simp only [hlv,Option.bind_some,ne_m1 he0,cond_false,hp,cond_true,hW',h1]
  | false=>
   obtain ⟨out,er,dd,tt,j,htt,hdec⟩:=decode_ok hfb (by omega) hV.tab V.dead 2147483647
   have hV1:=vok_d hV dd htt
   cases h2:((er != 0)||((out.length:Int)==0)) with
   | true=>
    refine ⟨{V with dead:=dd,tab:=tt},false,hV1,rfl,fun f es M W S D T B h hh=>?_⟩
    obtain ⟨e,_,_,he0,hlv⟩:=hl f es M W S D T h hh
    have hW':getI W f.p=some (h,f.i,f.o,V.deaf,V.blind,V.bad,V.highest,f.m,V.window,V.waits,V.sets,f.d,V.frames,V.gone):=hh.hW
    have hp:=gi_nn hW'
    refine ⟨W,S,_,_,B++List.replicate j bookC,?_,(hw_d hh dd tt).1,(hw_d hh dd tt).2⟩
    show (F_watch_Watch_answers _ _ _ _ _ _ _ _ _ _ _ _ _ _ _ _ _ _ _ _).bind _=_
    unfold F_watch_Watch_answers chk
    simp only [hlv,Option.bind_some,ne_m1 he0,cond_false,hp,cond_true,hW',h1,hdec D T B f.d f.t hh.hD hh.hT,h2]
   | false=>
    have h2':=(Bool.or_eq_false_iff.1 h2).2
    have hne:(out.length:Int)≠0:=beq_eq_false_iff_ne.1 h2'
    obtain ⟨x0,hx0,_⟩:=gi_lt (l:=out) (j:=0) (by omega) (by omega)
    cases h3:(!(x0.1==([58,115,116,97,116,117,115]:List Int))) with
    | true=>
     refine ⟨{V with dead:=dd,tab:=tt},false,hV1,rfl,fun f es M W S D T B h hh=>?_⟩
     obtain ⟨e,_,_,he0,hlv⟩:=hl f es M W S D T h hh
     have hW':getI W f.p=some (h,f.i,f.o,V.deaf,V.blind,V.bad,V.highest,f.m,V.window,V.waits,V.sets,f.d,V.frames,V.gone):=hh.hW
     have hp:=gi_nn hW'
     refine ⟨W,S,_,_,B++List.replicate j bookC,?_,(hw_d hh dd tt).1,(hw_d hh dd tt).2⟩
     show (F_watch_Watch_answers _ _ _ _ _ _ _ _ _ _ _ _ _ _ _ _ _ _ _ _).bind _=_
     unfold F_watch_Watch_answers chk
     simp only [hlv,Option.bind_some,ne_m1 he0,cond_false,hp,cond_true,hW',h1,hdec D T B f.d f.t hh.hD hh.hT,h2,hx0,h3]
    | false=>
     cases h4:decide (tt.2.2 > V.sets.1) with
     | true=>
      refine ⟨{V with dead:=dd,tab:=tt},false,hV1,rfl,fun f es M W S D T B h hh=>?_⟩
      obtain ⟨e,_,_,he0,hlv⟩:=hl f es M W S D T h hh
      have hW':getI W f.p=some (h,f.i,f.o,V.deaf,V.blind,V.bad,V.highest,f.m,V.window,V.waits,V.sets,f.d,V.frames,V.gone):=hh.hW
      have hp:=gi_nn hW'
      have hD2:getI (D.set f.d.toNat (f.t,dd)) f.d=some (f.t,dd):=gi_set hh.hD
      have hT2:getI (T.set f.t.toNat tt) f.t=some tt:=gi_set hh.hT
      refine ⟨W,S,_,_,B++List.replicate j bookC,?_,(hw_d hh dd tt).1,(hw_d hh dd tt).2⟩
      show (F_watch_Watch_answers _ _ _ _ _ _ _ _ _ _ _ _ _ _ _ _ _ _ _ _).bind _=_
      unfold F_watch_Watch_answers F_unpack_Dec_Table F_dyn_Table_Most chk
      simp only [hlv,Option.bind_some,ne_m1 he0,cond_false,hp,cond_true,hW',h1,hdec D T B f.d f.t hh.hD hh.hT,h2,hx0,h3,gi_nn hD2,hD2,gi_nn hT2,hT2,h4]
     | false=>
      obtain ⟨y0,hy0,hy1⟩:=mg_mem hms
      refine ⟨{V with dead:=dd,tab:=tt,ms:=mapSet V.ms s (s0.1,(true,(b13,s0.2.2.2)))},true,vok_s hV1 (Nat.le_refl c) ?_ ?_,rfl,fun f es M W S D T B h hh=>?_⟩
      ·rcases hV.str with h | h
       ·exact .inl h
       ·obtain ⟨n,a1,a2⟩:=h y0 hy0
        rw [hy1] at a1
        exact .inr ⟨n,a1,a2⟩
      ·have:=hV.dat y0 hy0
       rw [hy1] at this
       exact this
      ·obtain ⟨e,hge,hgS,he0,hlv⟩:=hl f es M W S D T h hh
       have hW':getI W f.p=some (h,f.i,f.o,V.deaf,V.blind,V.bad,V.highest,f.m,V.window,V.waits,V.sets,f.d,V.frames,V.gone):=hh.hW
       have hp:=gi_nn hW'
       have hD2:getI (D.set f.d.toNat (f.t,dd)) f.d=some (f.t,dd):=gi_set hh.hD
       have hT2:getI (T.set f.t.toNat tt) f.t=some tt:=gi_set hh.hT
       have hd:=hw_d hh dd tt
       refine ⟨W,S.set e.toNat (s0.1,(true,(b13,s0.2.2.2))),_,_,B++List.replicate j bookC,?_,hw_s hd.1 hge rfl rfl rfl rfl,kp_trans hd.2 (kp_s hd.1 hge) fun j y hj=>⟨y,hj⟩⟩
       show (F_watch_Watch_answers _ _ _ _ _ _ _ _ _ _ _ _ _ _ _ _ _ _ _ _).bind _=_
       unfold F_watch_Watch_answers F_unpack_Dec_Table F_dyn_Table_Most chk
       simp only [hlv,Option.bind_some,ne_m1 he0,cond_false,hp,cond_true,hW',h1,hdec D T B f.d f.t hh.hD hh.hT,h2,hx0,h3,gi_nn hD2,hD2,gi_nn hT2,hT2,h4,gi_nn hgS,hgS,gi_set hgS,st_two]
theorem sends_ok {c:Nat} {V:Vw} {k fl s:Int} {l data:List Int} (hV:VOk c V) (hb:V.blind=false) (hc:c+l.length<=100000000) (hll:l.length<=16384) (hdl:data.length<=16384) (i7 i9 i10 i11:Int) (l12:List (Int×Int)) (b13 b14 b15:Bool) :
    ∃ V' ok,VOk (c+data.length) V' /\ V'.deaf=V.deaf /\ OutR V V' ok (fun f M W S D T B=>(F_watch_Watch_sends f.p k fl s l data i7 i9 i10 i11 l12 b13 b14 b15 M W S).bind fun x=>some (x.1,x.2.1,x.2.2,D,T,B)):=by
  rcases live_ok V s with hl | ⟨s0,hms,hl⟩
  · refine ⟨V,false,hV.mono (Nat.le_add_right _ _),rfl,outr_same fun f es M W S D T B h hh=>?_⟩
    show (F_watch_Watch_sends _ _ _ _ _ _ _ _ _ _ _ _ _ _ _ _ _).bind _=_
    unfold F_watch_Watch_sends
    rw [hl f es M W S D T h hh,Option.bind_some,show eqI (-1) (-1)=true from rfl,cond_true]
    rfl
  · cases h0:s0.2.1 with
    | false=>
      refine ⟨V,false,hV.mono (Nat.le_add_right _ _),rfl,outr_same fun f es M W S D T B h hh=>?_⟩
      obtain ⟨e,hge,hgS,he0,hlv⟩:=hl f es M W S D T h hh
      show (F_watch_Watch_sends _ _ _ _ _ _ _ _ _ _ _ _ _ _ _ _ _).bind _=_
      unfold F_watch_Watch_sends chk
      simp only [hlv,Option.bind_some,ne_m1 he0,cond_false,gi_nn hgS,cond_true,hgS,h0,Bool.not_false]
    | true=>
      cases h1:decide ((l.length:Int) > V.sets.2.2.2.2.1) with
      | true=>
        refine ⟨V,false,hV.mono (Nat.le_add_right _ _),rfl,outr_same fun f es M W S D T B h hh=>?_⟩
        obtain ⟨e,hge,hgS,he0,hlv⟩:=hl f es M W S D T h hh
        have hW':getI W f.p=some (h,f.i,f.o,V.deaf,V.blind,V.bad,V.highest,f.m,V.window,V.waits,V.sets,f.d,V.frames,V.gone):=hh.hW
        have hp:=gi_nn hW'
        show (F_watch_Watch_sends _ _ _ _ _ _ _ _ _ _ _ _ _ _ _ _ _).bind _=_
        unfold F_watch_Watch_sends chk
        simp only [hlv,Option.bind_some,ne_m1 he0,cond_false,gi_nn hgS,cond_true,hgS,h0,Bool.not_true,hp,hW',h1]
      | false=>
        obtain ⟨y0,hy0,hy1⟩:=mg_mem hms
        obtain ⟨n0,hn0,hin⟩:∃ n,s0.1=some n /\ InW n:=by
          rcases hV.str with h | h
          · rw [hb] at h;cases h
          · obtain ⟨n,a1,a2⟩:=h y0 hy0
            rw [hy1] at a1
            exact ⟨n,a1,a2⟩
        have hdat:s0.2.2.2.2.length<=c:=by
          have:=hV.dat y0 hy0
          rw [hy1] at this
          exact this
        have hck:(decide ((s0.2.2.2.2.length+data.length)*1<=140737488355328)&&decide (s0.2.2.2.2.length+data.length<=maxLen))=true:=ck1' (by omega)
        have w1:=hV.win.1
        have w2:=hV.win.2
        have i1:=hin.1
        have i2:=hin.2
        /- what is left: the windows a and b afterwards -/
        have fin : ∀ (a b : Int), InW a -> InW b -> (∀ (f : Fp) (es : MW) (M : List MW) (W : List Wz) (S : List Sz) (D : List Dz) (T : List Tb) (h : Int), Hw f es M W S D T V h -> ∀ e, mapGet es s = some e -> getI S e = some s0 -> 0 <= e -> F_watch_Watch_live f.p s M W S = some e ->
            F_watch_Watch_sends f.p k fl s l data i7 i9 i10 i11 l12 b13 b14 b15 M W S=some (true,W.set f.p.toNat (wOf f {V with window:=b} h),S.set e.toNat (some a,(s0.2.1,(b13,(s0.2.2.2.1,s0.2.2.2.2++data)))))) ->
            ∃ V' ok,VOk (c+data.length) V' /\ V'.deaf=V.deaf /\ OutR V V' ok (fun f M W S D T B=>(F_watch_Watch_sends f.p k fl s l data i7 i9 i10 i11 l12 b13 b14 b15 M W S).bind fun x=>some (x.1,x.2.1,x.2.2,D,T,B)):=by
          intro a b ha hbb hrun
          have hVb:VOk c {V with window:=b}:=⟨hV.tab,hbb,hV.set4,hV.wts,hV.nw,hV.str,hV.dat⟩
          refine ⟨{V with window:=b,ms:=mapSet V.ms s (some a,(s0.2.1,(b13,(s0.2.2.2.1,s0.2.2.2.2++data))))},true,vok_s hVb (Nat.le_add_right _ _) (.inr ⟨a,rfl,ha⟩) ?_,rfl,fun f es M W S D T B h hh=>?_⟩
          · show (s0.2.2.2.2++data).length<=_
            rw [List.length_append];omega
          · obtain ⟨e,hge,hgS,he0,hlv⟩:=hl f es M W S D T h hh
            have hr:=hrun f es M W S D T h hh e hge hgS he0 hlv
            have hs1:=hw_s (V':={V with ms:=mapSet V.ms s (some a,(s0.2.1,(b13,(s0.2.2.2.1,s0.2.2.2.2++data))))}) hh hge rfl rfl rfl rfl
            refine ⟨_,_,D,T,B,?_,hw_w (V':={V with window:=b,ms:=mapSet V.ms s (some a,(s0.2.1,(b13,(s0.2.2.2.1,s0.2.2.2.2++data))))}) hs1 _ rfl rfl rfl rfl,kp_trans (kp_s hh hge) (kp_w (gi_some hh.hW).1 _) fun j y hj=>set_some he0 hj⟩
            show (F_watch_Watch_sends _ _ _ _ _ _ _ _ _ _ _ _ _ _ _ _ _).bind _=_
            rw [hr]
            rfl
        cases h2:decide ((l.length:Int) > 0) with
        | false=>
          refine fin n0 V.window hin hV.win fun f es M W S D T h hh e hge hgS he0 hlv=>?_
          have hW':getI W f.p=some (h,f.i,f.o,V.deaf,V.blind,V.bad,V.highest,f.m,V.window,V.waits,V.sets,f.d,V.frames,V.gone):=hh.hW
          have hp:=gi_nn hW'
          unfold F_watch_Watch_sends chk
          simp only [hlv,Option.bind_some,ne_m1 he0,cond_false,gi_nn hgS,cond_true,hgS,h0,Bool.not_true,hp,hW',h1,hn0,windows_in hin hV.win,h2,stream_in hin hV.win,conn_in hin hV.win,gi_set hgS,gi_set (gi_set hgS),hck,eqI_self,st_two]
          rfl
        | true=>
          have hl0:(l.length:Int) > 0:=of_decide_eq_true h2
          by_cases hov:n0 < (l.length:Int) \/ V.window < (l.length:Int)
          · refine ⟨V,false,hV.mono (Nat.le_add_right _ _),rfl,outr_same fun f es M W S D T B h hh=>?_⟩
            obtain ⟨e,hge,hgS,he0,hlv⟩:=hl f es M W S D T h hh
            have hW':getI W f.p=some (h,f.i,f.o,V.deaf,V.blind,V.bad,V.highest,f.m,V.window,V.waits,V.sets,f.d,V.frames,V.gone):=hh.hW
            have hp:=gi_nn hW'
            show (F_watch_Watch_sends _ _ _ _ _ _ _ _ _ _ _ _ _ _ _ _ _).bind _=_
            unfold F_watch_Watch_sends chk
            simp only [hlv,Option.bind_some,ne_m1 he0,cond_false,gi_nn hgS,cond_true,hgS,h0,Bool.not_true,hp,hW',h1,hn0,windows_in hin hV.win,h2,spend_over hin hV.win hl0 hov]
            rfl
          · have a1:InW (n0 - (l.length:Int)):=⟨by omega,by omega⟩
            have a2:InW (V.window - (l.length:Int)):=⟨by omega,by omega⟩
            refine fin (n0 - (l.length:Int)) (V.window - (l.length:Int)) a1 a2 fun f es M W S D T h hh e hge hgS he0 hlv=>?_
            have hW':getI W f.p=some (h,f.i,f.o,V.deaf,V.blind,V.bad,V.highest,f.m,V.window,V.waits,V.sets,f.d,V.frames,V.gone):=hh.hW
            have hp:=gi_nn hW'
            have hsp:=spend_in hin hV.win (n:=(l.length:Int)) (by omega) (by omega) (by omega)
            have h00:((0:Int) != 0)=false:=rfl
            unfold F_watch_Watch_sends chk
            simp only [hlv,Option.bind_some,ne_m1 he0,cond_false,gi_nn hgS,cond_true,hgS,h0,Bool.not_true,hp,hW',h1,hn0,windows_in hin hV.win,h2,hsp,h00,stream_in a1 a2,conn_in a1 a2,gi_set hgS,gi_set (gi_set hgS),hck,eqI_self,st_two]
            rfl
theorem clamp_in (a:Int):InW (minI (maxI a (-2147483647)) 2147483647):=by
 unfold InW minI maxI
 by_cases h1:(-2147483647:Int) > a
 ·rw [decide_eq_true h1,cond_true,decide_eq_false (show ¬ (2147483647:Int) < -2147483647 by decide),cond_false];exact ⟨by decide,by decide⟩
 ·rw [decide_eq_false h1,cond_false]
  by_cases h2:(2147483647:Int) < a
  ·rw [decide_eq_true h2,cond_true];exact ⟨by decide,by decide⟩
  ·rw [decide_eq_false h2,cond_false];omega
theorem win_step {by_ n:Int} (hn:InW n) (h1 : -2147483647<=by_) (h2:by_<=2147483647):∃ k b,winStep by_ n=some (k,b) /\ InW k:=by
  have n1:=hn.1
  have n2:=hn.2
  have hby:InW by_:=⟨h1,h2⟩
  have hwr:IntKind.i64.wrap (n+by_)=n+by_:=w64 (by omega) (by omega)
  by_cases ho:n+by_ > 2147483647
  · refine ⟨0,true,?_,inW0⟩
    have hs:F_flow_Shift (fz n 0) by_=some ((0,0),true,true,3):=by
      unfold F_flow_Shift F_flow_fault
      rw [parts_in hn inW0,Option.bind_some]
      simp only [Bool.not_true,cond_false,cut_in hby,Option.bind_some,bne_self_eq_false,stream_in hn inW0,hwr,decide_eq_true ho,cond_true]
    unfold winStep
    rw [windows_in hn inW0,Option.bind_some,hs,Option.bind_some]
    simp only [stream0,Option.bind_some]
  · have hs : F_flow_Shift (fz n 0) by_ = some (fz (minI (maxI (n + by_) (-2147483647)) 2147483647) 0, false, false, 0) := by
      have hw:F_flow_Windows (n+by_) 0=some (fz (minI (maxI (n+by_) (-2147483647)) 2147483647) 0):=by
        unfold F_flow_Windows
        rw [cut_in inW0]
        rfl
      unfold F_flow_Shift
      rw [parts_in hn inW0,Option.bind_some]
      simp only [Bool.not_true,cond_false,cut_in hby,Option.bind_some,bne_self_eq_false,stream_in hn inW0,conn_in hn inW0,hwr,decide_eq_false ho,hw]
    refine ⟨minI (maxI (n+by_) (-2147483647)) 2147483647,false,?_,clamp_in _⟩
    unfold winStep
    rw [windows_in hn inW0,Option.bind_some,hs,Option.bind_some]
    simp only [stream_in (clamp_in (n+by_)) inW0,Option.bind_some]
noncomputable def badS (by_:Int) (s:Sz):Bool:=match s.1 with
 | some n=>(match winStep by_ n with | some (_,b)=>b | none=>false)
 | none=>false
theorem all_ok {by_:Int} {S:List Sz} (h1 : -2147483647<=by_) (h2:by_<=2147483647):∀ {es:List (Int×Int)} {ms:List (Int×Sz)},Str S es ms->(∀ s∈ms,∃ n,s.2.1=some n /\ InW n)->es.all (winOk by_ S)=true
 | [],[],_,_=>rfl
 | e::es,s::ms,⟨g1,g2,g3⟩,hw=>by
  obtain ⟨n,hn,hin⟩:=hw s List.mem_cons_self
  obtain ⟨k,b,hk,_⟩:=win_step hin h1 h2
  rw [List.all_cons,all_ok h1 h2 g3 fun s hs=>hw s (List.mem_cons_of_mem _ hs),Bool.and_true]
  unfold winOk
  have e2:getI S e.2=some (some n,s.2.2):=by rw [g2,<- hn]
  rw [e2]
  simp only [hk]
 | [],_::_,h,_=>h.elim
 | _::_,[],h,_=>h.elim
theorem any_bad {by_:Int} {S:List Sz}:∀ {es:List (Int×Int)} {ms:List (Int×Sz)},Str S es ms->es.any (winBad by_ S)=ms.any (fun s=>badS by_ s.2)
 | [],[],_=>rfl
 | e::es,s::ms,⟨g1,g2,g3⟩=>by
  rw [List.any_cons,List.any_cons,any_bad g3]
  congr 1
  unfold winBad badS
  rw [g2]
  obtain ⟨a,x,b⟩:=s
  cases x with
  | none=>rfl
  | some n=>rfl
 | [],_::_,h=>h.elim
 | _::_,[],h=>h.elim
theorem gi_mapIdx {α:Type} {l:List α} {g:Nat->α->α} {j:Int} {y:α} (h:getI l j=some y):getI (l.mapIdx g) j=some (g j.toNat y):=by
 obtain ⟨h0,h1,h2⟩:=gi_some h
 refine gi_of h0 ?_
 rw [List.getElem?_mapIdx,h2]
 rfl
theorem str_map {S:List Sz} {g:Nat->Sz->Sz} {w:Sz->Sz}:∀ {es:List (Int×Int)} {ms:List (Int×Sz)},(∀ e∈es,∀ y,getI S e.2=some y->g e.2.toNat y=w y)->Str S es ms->Str (S.mapIdx g) es (ms.map fun s=>(s.1,w s.2))
 | [],[],_,_=>trivial
 | e::es,s::ms,h,⟨g1,g2,g3⟩=>⟨g1,by rw [gi_mapIdx g2,h e List.mem_cons_self _ g2],str_map (fun e he=>h e (List.mem_cons_of_mem _ he)) g3⟩
 | [],_::_,_,h=>h.elim
 | _::_,[],_,h=>h.elim
abbrev ASt:=Int×Int×Int×Int×Int×Int×Int×Int×Int×Int×Int×Int×Int×Bool×Bool×Int
theorem apply_tot {l:List (Int×Int)} {i1 i2 i3 i4 i5 i6:Int} (hq:∀ q∈l,0<=q.2 /\ q.2 < 4294967296) (hl:l.length<=16384) (h0:0<=i4) (h1:i4<=2147483647):Tot (fun x:Int×Int×Int×Int×Int×Int×Bool×Bool×Int=>0<=x.2.2.2.1 /\ x.2.2.2.1<=2147483647) (F_sets_Apply i1 i2 i3 i4 i5 i6 l):=by
 unfold F_sets_Apply
 refine tot_join (Q:=fun s=>0<=s.2.2.2.1 /\ s.2.2.2.1<=2147483647) ?_ fun s hs=>tot_some hs
 refine tot_mono (tot_loop (P:=fun x:(Int×Int×Int×Int×Int×Int×Bool×Bool×Int)⊕(Int×Int×Int×Int×Int×Int×Int×Int×Int×Int×Int×Int×Bool×Bool×Int)=>match x with | .inl r=>0<=r.2.2.2.1 /\ r.2.2.2.1<=2147483647 | .inr s=>0<=s.2.2.2.1 /\ s.2.2.2.1<=2147483647)
  (I:=fun s:ASt=>0<=s.1 /\ s.1<=(l.length:Int) /\ 0<=s.2.2.2.2.1 /\ s.2.2.2.2.1<=2147483647) (fun s=>((l.length:Int) - s.1).toNat) (fun s hs=>?_) _ _ (Nat.le_refl _) ⟨Int.le_refl _,by show (0:Int)<=l.length;omega,h0,h1⟩) fun x hx=>(by cases x <;> exact hx)
 obtain ⟨a0,a1,b0,b1⟩:=hs
 unfold F_sets_Apply_L3
 dsimp only
 refine tot_cond (fun hc=>?_) (fun _=>tot_some ⟨b0,b1⟩)
 have hc':s.1 < (l.length:Int):=of_decide_eq_true hc
 obtain ⟨q,hqg,hqm⟩:=gi_lt (l:=l) (j:=s.1) a0 hc'
 have hqv:=hq q hqm
 obtain ⟨e,he,hew⟩:=wrong_ok q.1 q.2
 have hw:IntKind.i64.wrap (s.1+1)=s.1+1:=w64 (by omega) (by omega)
 rw [hqg,Option.bind_some,he,Option.bind_some,hw]
 refine tot_cond (fun _=>tot_some ⟨Int.le_refl _,by show (0:Int)<=2147483647;decide⟩) (fun he0=>?_)
 have he0':e=0:=bne_eq_false_iff_eq.1 he0
 have fin:∀ (s':ASt),s'.1=s.1+1->(0<=s'.2.2.2.2.1 /\ s'.2.2.2.2.1<=2147483647)->(0<=s'.1 /\ s'.1<=(l.length:Int) /\ 0<=s'.2.2.2.2.1 /\ s'.2.2.2.2.1<=2147483647) /\ ((l.length:Int) - s'.1).toNat < ((l.length:Int) - s.1).toNat:=by
  intro s' e1 e2
  rw [e1]
  exact ⟨⟨by omega,by omega,e2⟩,by omega⟩
 refine tot_cond (fun _=>tot_some (fin _ rfl ⟨b0,b1⟩)) (fun _=>?_)
 refine tot_cond (fun _=>tot_some (fin _ rfl ⟨b0,b1⟩)) (fun _=>?_)
 refine tot_cond (fun _=>tot_some (fin _ rfl ⟨b0,b1⟩)) (fun _=>?_)
 refine tot_cond (fun h4=>tot_some (fin _ rfl ⟨hqv.1,hew he0' h4⟩)) (fun _=>?_)
 refine tot_cond (fun _=>tot_some (fin _ rfl ⟨b0,b1⟩)) (fun _=>?_)
 exact tot_cond (fun _=>tot_some (fin _ rfl ⟨b0,b1⟩)) (fun _=>tot_some (fin _ rfl ⟨b0,b1⟩))
theorem applies_ok {c:Nat} {V:Vw} (hV:VOk c V) (hb:V.blind=false):∃ V' ok,VOk c V' /\ V'.deaf=V.deaf /\ OutR V V' ok (fun f M W S D T B=>(F_watch_Watch_applies f.p M W S).bind fun x=>some (x.1,x.2.1,x.2.2,D,T,B)):=by
  cases h0:((V.waits.length:Int)==0) with
  | true=>
    refine ⟨V,false,hV,rfl,outr_same fun f es M W S D T B h hh=>?_⟩
    have hW':getI W f.p=some (h,f.i,f.o,V.deaf,V.blind,V.bad,V.highest,f.m,V.window,V.waits,V.sets,f.d,V.frames,V.gone):=hh.hW
    have hp:=gi_nn hW'
    show (F_watch_Watch_applies _ _ _ _).bind _=_
    unfold F_watch_Watch_applies chk
    simp only [hp,cond_true,hW',Option.bind_some,h0]
  | false=>
    have hne:(V.waits.length:Int)≠0:=beq_eq_false_iff_ne.1 h0
    obtain ⟨w0,hw0,hwm⟩:=gi_lt (l:=V.waits) (j:=0) (by omega) (by omega)
    obtain ⟨hwq,hwl⟩:=hV.wts w0 hwm
    obtain ⟨x,hx,x0,x1⟩:=apply_tot (i1:=V.sets.1) (i2:=V.sets.2.1) (i3:=V.sets.2.2.1) (i4:=V.sets.2.2.2.1) (i5:=V.sets.2.2.2.2.1) (i6:=V.sets.2.2.2.2.2) hwq hwl hV.set4.1 hV.set4.2
    have s0:=hV.set4.1
    have s1:=hV.set4.2
    obtain ⟨by_,hby⟩:∃ by_:Int,IntKind.i64.wrap (x.2.2.2.1 - V.sets.2.2.2.1)=by_:=⟨_,rfl⟩
    have hby1 : -2147483647<=by_ /\ by_<=2147483647:=by
      rw [<-hby,w64 (by omega) (by omega)];omega
    have hcut:=cut_tail (l:=V.waits) (a:=1) (by omega) (by omega)
    obtain ⟨fl,hfl⟩:∃ fl:Bool,x.2.2.2.2.2.2.1=fl:=⟨_,rfl⟩
    obtain ⟨bd,hbd⟩:∃ bd:Bool,V.ms.any (fun s=>badS by_ s.2)=bd:=⟨_,rfl⟩
    have hwin:∀ s∈V.ms,∃ n,s.2.1=some n /\ InW n:=by
      rcases hV.str with h | h
      · rw [hb] at h;cases h
      · exact h
    refine ⟨{V with waits:=V.waits.drop 1,sets:=(x.1,x.2.1,x.2.2.1,x.2.2.2.1,x.2.2.2.2.1,x.2.2.2.2.2.1),blind:=fl||bd,ms:=cond fl V.ms (V.ms.map fun s=>(s.1,winNew by_ bd s.2))},true,⟨hV.tab,hV.win,⟨x0,x1⟩,fun w hw=>hV.wts w (List.mem_of_mem_drop hw),?_,?_,fun y hy=>?_⟩,rfl,fun f es M W S D T B h hh=>?_⟩
    · show (V.waits.drop 1).length<=c
      rw [List.length_drop]
      have:=hV.nw
      omega
    · cases fl with
      | true=>exact .inl rfl
      | false=>
        cases bd with
        | true=>exact .inl rfl
        | false=>
          refine .inr fun y hy=>?_
          rw [cond_false] at hy
          obtain ⟨s,hs,rfl⟩:=List.mem_map.1 hy
          obtain ⟨n,hn,hin⟩:=hwin s hs
          obtain ⟨k,b,hk,hki⟩:=win_step hin hby1.1 hby1.2
          refine ⟨k,?_,hki⟩
          show (winNew by_ false s.2).1=some k
          unfold winNew
          rw [cond_false,hn]
          simp only [hk]
    · have key : ∀ s : Sz, (winNew by_ bd s).2.2.2.2 = s.2.2.2.2 := by
        intro s
        unfold winNew
        cases bd with
        | true=>rfl
        | false=>
          rw [cond_false]
          obtain ⟨a,b⟩:=s
          cases a with
          | none=>rfl
          | some n=>
            simp only
            cases winStep by_ n with
            | none=>rfl
            | some q=>rfl
      cases fl with
      | true=>exact hV.dat y hy
      | false=>
        rw [cond_false] at hy
        obtain ⟨s,hs,rfl⟩:=List.mem_map.1 hy
        show (winNew by_ bd s.2).2.2.2.2.length<=c
        rw [key]
        exact hV.dat s hs
    · have hW':getI W f.p=some (h,f.i,f.o,V.deaf,V.blind,V.bad,V.highest,f.m,V.window,V.waits,V.sets,f.d,V.frames,V.gone):=hh.hW
      have hp:=gi_nn hW'
      have hp0:=(gi_some hW').1
      /- the watcher when its streams are looked at -/
      obtain ⟨w3,hw3⟩:∃ w3:Wz,(h,f.i,f.o,V.deaf,fl,V.bad,V.highest,f.m,V.window,V.waits.drop 1,(x.1,x.2.1,x.2.2.1,x.2.2.2.1,x.2.2.2.2.1,x.2.2.2.2.2.1),f.d,V.frames,V.gone)=w3:=⟨_,rfl⟩
      have hg3:getI (W.set f.p.toNat w3) f.p=some w3:=gi_set hW'
      have hap:apEs M (W.set f.p.toNat w3) f.p=some (w3,es):=by
        unfold apEs
        rw [hg3,Option.bind_some,<- hw3]
        simp only [hh.hM,Option.bind_some]
      have hok:apOk by_ f.p M (W.set f.p.toNat w3) S=true:=by
        unfold apOk
        rw [hap]
        simp only [all_ok hby1.1 hby1.2 hh.hS hwin,decide_eq_true hh.hn,Bool.and_self]
      have haw:apW by_ f.p M (W.set f.p.toNat w3) S=W.set f.p.toNat (wOf f {V with waits:=V.waits.drop 1,sets:=(x.1,x.2.1,x.2.2.1,x.2.2.2.1,x.2.2.2.2.1,x.2.2.2.2.2.1),blind:=fl||bd} h):=by
        unfold apW
        rw [hap]
        simp only [any_bad hh.hS,hbd,st_two]
        rw [<-hw3]
        rfl
      have has:apS by_ f.p M (W.set f.p.toNat w3) S=cond fl S (S.mapIdx fun j y=>cond (es.any fun q=>eqI q.2 (j:Int)) (winNew by_ bd y) y):=by
        unfold apS
        rw [hap]
        simp only [any_bad hh.hS,hbd]
        rw [<-hw3]
      have hin:∀ e∈es,∀ y,getI S e.2=some y->cond (es.any fun q=>eqI q.2 (e.2.toNat:Int)) (winNew by_ bd y) y=winNew by_ bd y:=by
        intro e he y hy
        have:(es.any fun q=>eqI q.2 (e.2.toNat:Int))=true:=by
          rw [List.any_eq_true]
          refine ⟨e,he,?_⟩
          have:=(gi_some hy).1
          exact beq_iff_eq.2 (by omega)
        rw [this,cond_true]
      refine ⟨_,cond fl S (S.mapIdx fun j y=>cond (es.any fun q=>eqI q.2 (j:Int)) (winNew by_ bd y) y),D,T,B,?_,⟨gi_set hh.hW,hh.hM,?_,hh.hn,hh.hD,hh.hT⟩,⟨fun _ _ _ h=>h,fun j y hj h=>gi_ne hp0 (Ne.symm hj) h,fun j y hj hy=>?_,fun _ _ _ h=>h,fun _ _ _ h=>h,fun e he=>.inl ⟨e,he,rfl⟩,fun j y hj=>?_⟩⟩
      · show (F_watch_Watch_applies _ _ _ _).bind _=_
        unfold F_watch_Watch_applies chk
        simp only [hp,cond_true,hW',Option.bind_some,h0,cond_false,hw0,hx,hcut,eqI_self,gi_set hW',st_two,hby,hfl]
        have hd1:V.waits.drop (1:Int).toNat=V.waits.drop 1:=rfl
        rw [hd1,hw3]
        simp only [hok,cond_true,haw,has,Option.bind_some]
        rfl
      · show Str _ es (cond fl V.ms (V.ms.map fun s=>(s.1,winNew by_ bd s.2)))
        cases fl with
        | true=>exact hh.hS
        | false=>exact str_map hin hh.hS
      · cases fl with
        | true=>exact hy
        | false=>
          rw [cond_false,gi_mapIdx hy]
          have:(es.any fun q=>eqI q.2 (j.toNat:Int))=false:=by
            rw [List.any_eq_false]
            intro e he
            have h1:=hj e he
            have h2:=(gi_some hy).1
            have h3:eqI e.2 (j.toNat:Int)=false:=beq_eq_false_iff_ne.2 (by omega)
            rw [h3]
            decide
          rw [this,cond_false]
      · cases fl with
        | true=>exact ⟨y,hj⟩
        | false=>exact ⟨_,gi_mapIdx hj⟩
noncomputable def rtail (p1 i2 i3 i4:Int) (l5:List Int) (x:Prt) (l6:List MW) (l7:List Wz) (l8:List Sz) (l9:List Dz) (l10:List Tb) (l11:List Bk):Option (Bool×List Wz×List Sz×List Dz×List Tb×List Bk):=
  (cond (i2 == 4)
            (cond (!x.2.2.2.2.2.2.2.1)
              (some (true,l7,l8,l9,l10,l11))
              ((F_watch_Watch_applies p1 l6 l7 l8).bind fun x14=>
                some (x14.1,x14.2.1,x14.2.2,l9,l10,l11)))
            (cond (i2==1)
              (cond x.2.2.2.2.2.2.2.2.1
                ((F_watch_Watch_answers p1 i2 i3 i4 l5 x.1 x.2.1 x.2.2.1 x.2.2.2.1 x.2.2.2.2.1 x.2.2.2.2.2.1 x.2.2.2.2.2.2.1 x.2.2.2.2.2.2.2.1 x.2.2.2.2.2.2.2.2.1 l6 l7 l8 l9 l10 l11).bind fun x15=>
                  some (x15.1,l7,x15.2.1,x15.2.2.1,x15.2.2.2.1,x15.2.2.2.2))
                (some (false,l7,l8,l9,l10,l11)))
              (cond (i2==0)
                ((F_watch_Watch_sends p1 i2 i3 i4 l5 x.1 x.2.1 x.2.2.1 x.2.2.2.1 x.2.2.2.2.1 x.2.2.2.2.2.1 x.2.2.2.2.2.2.1 x.2.2.2.2.2.2.2.1 x.2.2.2.2.2.2.2.2.1 l6 l7 l8).bind fun x16=>
                  some (x16.1,x16.2.1,x16.2.2,l9,l10,l11))
                (cond (i2==3)
                  (chk (nnI p1)
                    ((getI l7 p1).bind fun x17=>
                      (getI l6 x17.2.2.2.2.2.2.2.1).bind fun m18=>
                      cond (eqI (getZ (mapGet m18 i4) (-1:Int)) (-1))
                      (some (false,l7,l8,l9,l10,l11))
                      (chk (nnI (getZ (mapGet m18 i4) (-1:Int)))
                        ((getI l8 (getZ (mapGet m18 i4) (-1:Int))).bind fun x19=>
                          cond x19.2.2.2.1
                          (some (false,l7,l8,l9,l10,l11))
                          (chk (nnI (getZ (mapGet m18 i4) (-1:Int)))
                            ((getI l8 (getZ (mapGet m18 i4) (-1:Int))).bind fun x20=>
                              some (true,l7,(l8.set (Int.toNat (getZ (mapGet m18 i4) (-1:Int))) (x20.1,(x20.2.1,(x20.2.2.1,(true,x20.2.2.2.2))))),l9,l10,l11)))))))
                  (cond (i2==8)
                    (chk (nnI p1)
                      ((getI l7 p1).bind fun x21=>
                        (getI l6 x21.2.2.2.2.2.2.2.1).bind fun m22=>
                        cond (i4==0)
                        (some (true,l7,l8,l9,l10,l11))
                        (cond (!(eqI (getZ (mapGet m22 i4) (-1:Int)) (-1)))
                          (chk (nnI (getZ (mapGet m22 i4) (-1:Int)))
                            ((getI l8 (getZ (mapGet m22 i4) (-1:Int))).bind fun x23=>
                              some ((!x23.2.2.2.1),l7,l8,l9,l10,l11)))
                          (some (false,l7,l8,l9,l10,l11)))))
                    (cond (i2==7)
                      (chk (nnI p1)
                        ((getI l7 p1).bind fun x24=>
                          some (true,(l7.set (Int.toNat p1) (x24.1,(x24.2.1,(x24.2.2.1,(x24.2.2.2.1,(x24.2.2.2.2.1,(x24.2.2.2.2.2.1,(x24.2.2.2.2.2.2.1,(x24.2.2.2.2.2.2.2.1,(x24.2.2.2.2.2.2.2.2.1,(x24.2.2.2.2.2.2.2.2.2.1,(x24.2.2.2.2.2.2.2.2.2.2.1,(x24.2.2.2.2.2.2.2.2.2.2.2.1,(x24.2.2.2.2.2.2.2.2.2.2.2.2.1,(x.2.2.1 != 0))))))))))))))),l8,l9,l10,l11)))
                      (some ((i2==6),l7,l8,l9,l10,l11))))))))
theorem right_eq {k fl s:Int} {l:List Int} {x:Prt} {f:Fp} {es:MW} {M:List MW} {W:List Wz} {S:List Sz} {D:List Dz} {T:List Tb} {B:List Bk} {V:Vw} {h:Int} (hR:F_part_Read k fl s l=some x) (hh:Hw f es M W S D T V h) :
  F_watch_Watch_right f.p k fl s l M W S D T B=cond (((V.frames==0)&&((k != 4)||x.2.2.2.2.2.2.2.1))||x.2.2.2.2.2.2.2.2.2.1||V.gone) (some (false,W,S,D,T,B)) (rtail f.p k fl s l x M W S D T B):=by
 have hW':getI W f.p=some (h,f.i,f.o,V.deaf,V.blind,V.bad,V.highest,f.m,V.window,V.waits,V.sets,f.d,V.frames,V.gone):=hh.hW
 have hp:=gi_nn hW'
 unfold F_watch_Watch_right chk
 simp only [hR,Option.bind_some,hp,cond_true,hW']
 cases h1:(V.frames==0) with
 | true=>
  cases h2:(k != 4) with
  | true=>rfl
  | false=>
   cases h3:x.2.2.2.2.2.2.2.1 with
   | true=>rfl
   | false=>
    cases h4:x.2.2.2.2.2.2.2.2.2.1 with
    | true=>rfl
    | false=>
     cases h5:V.gone with
     | true=>rfl
     | false=>
      simp only [cond_false]
      unfold rtail chk
      simp only [hp,cond_true,hW',Option.bind_some,h3]
      rfl
 | false=>
  cases h4:x.2.2.2.2.2.2.2.2.2.1 with
  | true=>simp only [cond_false,cond_true,Bool.false_and,Bool.false_or,Bool.true_or]
  | false=>
   cases h5:V.gone with
   | true=>simp only [cond_false,cond_true,Bool.false_and,Bool.false_or,Bool.or_true]
   | false=>
    simp only [cond_false,Bool.false_and,Bool.or_false]
    unfold rtail chk
    simp only [hp,cond_true,hW',Option.bind_some]
theorem right_ok {c:Nat} {V:Vw} {k fl s:Int} {l:List Int} (hf:FrOk k fl s l) (hV:VOk c V) (hc:c<=10000000) (hb:V.blind=false):∃ V' ok,VOk (c+l.length) V' /\ V'.deaf=V.deaf /\ OutR V V' ok (fun f M W S D T B=>F_watch_Watch_right f.p k fl s l M W S D T B):=by
 obtain ⟨x,hR,hx1,hx2,hx3,hx4,hx5,hx6⟩:=read_tot (N:=l.length) (k:=k) (fl:=fl) (s:=s) hf.2.2.2.2 hf.2.2.2.1 (Nat.le_refl _)
 have hxl:x.1.length<=l.length:=hx2
 have hle:c<=c+l.length:=Nat.le_add_right _ _
 cases hw:(((V.frames==0)&&((k != 4)||x.2.2.2.2.2.2.2.1))||x.2.2.2.2.2.2.2.2.2.1||V.gone) with
 | true=>
  refine ⟨V,false,hV.mono hle,rfl,outr_same fun f es M W S D T B h hh=>?_⟩
  show F_watch_Watch_right f.p k fl s l M W S D T B=_
  rw [right_eq hR hh,hw,cond_true]
 | false=>
  have lift:∀ {V' ok},OutR V V' ok (fun f M W S D T B=>rtail f.p k fl s l x M W S D T B)->OutR V V' ok (fun f M W S D T B=>F_watch_Watch_right f.p k fl s l M W S D T B):=by
   intro V' ok h f es M W S D T B h0 hh
   obtain ⟨W',S',D',T',B',e,r⟩:=h f es M W S D T B h0 hh
   refine ⟨W',S',D',T',B',?_,r⟩
   show F_watch_Watch_right f.p k fl s l M W S D T B=_
   rw [right_eq hR hh,hw,cond_false]
   exact e
  suffices h:∃ V' ok,VOk (c+l.length) V' /\ V'.deaf=V.deaf /\ OutR V V' ok (fun f M W S D T B=>rtail f.p k fl s l x M W S D T B) by
   obtain ⟨V',ok,a,b,d⟩:=h
   exact ⟨V',ok,a,b,lift d⟩
  have const:∀ (ok:Bool),(∀ (f:Fp) (es:MW) (M:List MW) (W:List Wz) (S:List Sz) (D:List Dz) (T:List Tb) (B:List Bk) (h:Int),Hw f es M W S D T V h->rtail f.p k fl s l x M W S D T B=some (ok,W,S,D,T,B)) -> ∃ V' ok,VOk (c+l.length) V' /\ V'.deaf=V.deaf /\ OutR V V' ok (fun f M W S D T B=>rtail f.p k fl s l x M W S D T B):=fun ok h=>⟨V,ok,hV.mono hle,rfl,outr_same h⟩
  cases h4:(k==4) with
  | true=>
   cases ha:x.2.2.2.2.2.2.2.1 with
   | false=>
    refine const true fun f es M W S D T B h hh=>?_
    unfold rtail
    simp only [h4,cond_true,ha,Bool.not_false]
   | true=>
    obtain ⟨V',ok,a,b,d⟩:=applies_ok hV hb
    refine ⟨V',ok,a.mono hle,b,fun f es M W S D T B h hh=>?_⟩
    obtain ⟨W',S',D',T',B',e,r⟩:=d f es M W S D T B h hh
    refine ⟨W',S',D',T',B',?_,r⟩
    show rtail f.p k fl s l x M W S D T B=_
    unfold rtail
    simp only [h4,cond_true,ha,Bool.not_true,cond_false]
    exact e
  | false=>
   cases h1:(k==1) with
   | true=>
    cases he:x.2.2.2.2.2.2.2.2.1 with
    | false=>
     refine const false fun f es M W S D T B h hh=>?_
     unfold rtail
     simp only [h4,cond_false,h1,cond_true,he]
    | true=>
     obtain ⟨V',ok,a,b,d⟩:=answers_ok (k:=k) (fl:=fl) (s:=s) (l:=l) hV hb hx1 (Nat.le_trans hx2 hf.2.2.2.2) x.2.1 x.2.2.1 x.2.2.2.1 x.2.2.2.2.1 x.2.2.2.2.2.1 x.2.2.2.2.2.2.1 x.2.2.2.2.2.2.2.1 x.2.2.2.2.2.2.2.2.1
     refine ⟨V',ok,a.mono hle,b,fun f es M W S D T B h hh=>?_⟩
     obtain ⟨W',S',D',T',B',e,r⟩:=d f es M W S D T B h hh
     refine ⟨W',S',D',T',B',?_,r⟩
     show rtail f.p k fl s l x M W S D T B=_
     unfold rtail
     simp only [h4,cond_false,h1,cond_true,he] at e ⊢
     exact e
   | false=>
    cases h0:(k==0) with
    | true=>
     obtain ⟨V',ok,a,b,d⟩:=sends_ok (k:=k) (fl:=fl) (s:=s) (l:=l) hV hb (by have:=hf.2.2.2.2;omega) hf.2.2.2.2 (Nat.le_trans hx2 hf.2.2.2.2) x.2.1 x.2.2.1 x.2.2.2.1 x.2.2.2.2.1 x.2.2.2.2.2.1 x.2.2.2.2.2.2.1 x.2.2.2.2.2.2.2.1 x.2.2.2.2.2.2.2.2.1
     refine ⟨V',ok,a.mono (by omega),b,fun f es M W S D T B h hh=>?_⟩
     obtain ⟨W',S',D',T',B',e,r⟩:=d f es M W S D T B h hh
     refine ⟨W',S',D',T',B',?_,r⟩
     show rtail f.p k fl s l x M W S D T B=_
     unfold rtail
     simp only [h4,cond_false,h1,h0,cond_true] at e ⊢
     exact e
    | false=>
     cases h3:(k==3) with
     | true=>
      cases hg:mapGet V.ms s with
      | none=>
       refine const false fun f es M W S D T B h hh=>?_
       have hW':getI W f.p=some (h,f.i,f.o,V.deaf,V.blind,V.bad,V.highest,f.m,V.window,V.waits,V.sets,f.d,V.frames,V.gone):=hh.hW
       rcases str_get (k:=s) hh.hS with g | ⟨e,s',g1,g2,g3,_⟩
       ·have hz:eqI (getZ (none:Option Int) (-1)) (-1)=true:=rfl
        unfold rtail chk
        simp only [h4,cond_false,h1,h0,h3,cond_true,gi_nn hW',hW',Option.bind_some,hh.hM,g.1,hz]
       ·rw [g2] at hg;cases hg
      | some s0=>
       obtain ⟨y0,hy0,hy1⟩:=mg_mem hg
       cases hr:s0.2.2.2.1 with
       | true=>
        refine const false fun f es M W S D T B h hh=>?_
        have hW':getI W f.p=some (h,f.i,f.o,V.deaf,V.blind,V.bad,V.highest,f.m,V.window,V.waits,V.sets,f.d,V.frames,V.gone):=hh.hW
        rcases str_get (k:=s) hh.hS with g | ⟨e,s',g1,g2,g3,_⟩
        ·rw [g.2] at hg;cases hg
        ·rw [hg] at g2
         injection g2 with g2
         subst g2
         have hz:getZ (some e) (-1:Int)=e:=rfl
         unfold rtail chk
         simp only [h4,cond_false,h1,h0,h3,cond_true,gi_nn hW',hW',Option.bind_some,hh.hM,g1,hz,ne_m1 (gi_some g3).1,gi_nn g3,g3,hr]
       | false=>
        refine ⟨{V with ms:=mapSet V.ms s (s0.1,(s0.2.1,(s0.2.2.1,(true,s0.2.2.2.2))))},true,vok_s hV hle ?_ ?_,rfl,fun f es M W S D T B h hh=>?_⟩
        ·rcases hV.str with h | h
         ·exact .inl h
         ·obtain ⟨n,a1,a2⟩:=h y0 hy0
          rw [hy1] at a1
          exact .inr ⟨n,a1,a2⟩
        ·have:=hV.dat y0 hy0
         rw [hy1] at this
         exact Nat.le_trans this hle
        ·have hW':getI W f.p=some (h,f.i,f.o,V.deaf,V.blind,V.bad,V.highest,f.m,V.window,V.waits,V.sets,f.d,V.frames,V.gone):=hh.hW
         rcases str_get (k:=s) hh.hS with g | ⟨e,s',g1,g2,g3,_⟩
         ·rw [g.2] at hg;cases hg
         ·rw [hg] at g2
          injection g2 with g2
          subst g2
          have hz:getZ (some e) (-1:Int)=e:=rfl
          refine ⟨W,S.set e.toNat (s0.1,(s0.2.1,(s0.2.2.1,(true,s0.2.2.2.2)))),D,T,B,?_,hw_s hh g1 rfl rfl rfl rfl,kp_s hh g1⟩
          show rtail f.p k fl s l x M W S D T B=_
          unfold rtail chk
          simp only [h4,cond_false,h1,h0,h3,cond_true,gi_nn hW',hW',Option.bind_some,hh.hM,g1,hz,ne_m1 (gi_some g3).1,gi_nn g3,g3,hr]
     | false=>
      cases h8:(k==8) with
      | true=>
       cases hs0:(s==0) with
       | true=>
        refine const true fun f es M W S D T B h hh=>?_
        have hW':getI W f.p=some (h,f.i,f.o,V.deaf,V.blind,V.bad,V.highest,f.m,V.window,V.waits,V.sets,f.d,V.frames,V.gone):=hh.hW
        unfold rtail chk
        simp only [h4,cond_false,h1,h0,h3,h8,cond_true,gi_nn hW',hW',Option.bind_some,hh.hM,hs0]
       | false=>
        cases hg:mapGet V.ms s with
        | none=>
         refine const false fun f es M W S D T B h hh=>?_
         have hW':getI W f.p=some (h,f.i,f.o,V.deaf,V.blind,V.bad,V.highest,f.m,V.window,V.waits,V.sets,f.d,V.frames,V.gone):=hh.hW
         rcases str_get (k:=s) hh.hS with g | ⟨e,s',g1,g2,g3,_⟩
         ·have hz:eqI (getZ (none:Option Int) (-1)) (-1)=true:=rfl
          unfold rtail chk
          simp only [h4,cond_false,h1,h0,h3,h8,cond_true,gi_nn hW',hW',Option.bind_some,hh.hM,hs0,g.1,hz,Bool.not_true]
         ·rw [g2] at hg;cases hg
        | some s0=>
         refine const (!s0.2.2.2.1) fun f es M W S D T B h hh=>?_
         have hW':getI W f.p=some (h,f.i,f.o,V.deaf,V.blind,V.bad,V.highest,f.m,V.window,V.waits,V.sets,f.d,V.frames,V.gone):=hh.hW
         rcases str_get (k:=s) hh.hS with g | ⟨e,s',g1,g2,g3,_⟩
         ·rw [g.2] at hg;cases hg
         ·rw [hg] at g2
          injection g2 with g2
          subst g2
          have hz:getZ (some e) (-1:Int)=e:=rfl
          unfold rtail chk
          simp only [h4,cond_false,h1,h0,h3,h8,cond_true,gi_nn hW',hW',Option.bind_some,hh.hM,hs0,g1,hz,ne_m1 (gi_some g3).1,Bool.not_false,gi_nn g3,g3]
      | false=>
       cases h7:(k==7) with
       | true=>
        refine ⟨{V with gone:=(x.2.2.1 != 0)},true,⟨hV.tab,hV.win,hV.set4,hV.wts,Nat.le_trans hV.nw hle,hV.str,fun y hy=>Nat.le_trans (hV.dat y hy) hle⟩,rfl,fun f es M W S D T B h hh=>?_⟩
        have hW':getI W f.p=some (h,f.i,f.o,V.deaf,V.blind,V.bad,V.highest,f.m,V.window,V.waits,V.sets,f.d,V.frames,V.gone):=hh.hW
        refine ⟨_,S,D,T,B,?_,hw_w (V':={V with gone:=(x.2.2.1 != 0)}) hh _ rfl rfl rfl rfl,kp_w (gi_some hW').1 _⟩
        show rtail f.p k fl s l x M W S D T B=_
        unfold rtail chk
        simp only [h4,cond_false,h1,h0,h3,h8,h7,cond_true,gi_nn hW',hW',Option.bind_some]
        rfl
       | false=>
        refine const (k==6) fun f es M W S D T B h hh=>?_
        unfold rtail
        simp only [h4,cond_false,h1,h0,h3,h8,h7]
end Vp
end Go.Proofs.YtifbhefbhlbofaaDoor
