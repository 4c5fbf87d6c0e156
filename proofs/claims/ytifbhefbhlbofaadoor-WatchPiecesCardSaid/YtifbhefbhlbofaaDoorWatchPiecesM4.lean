/- Texts of this claim, one behind the other. -/
import Derived.Test.YtifbhefbhlbofaaDoorWatchPiecesM3
import Derived.Deep.LoopGhost
import Derived.Below
import Derived.WideShapes
import Derived.ChangeShapes
import Derived.ChangeAt
import Derived.RowKit
import Derived.Deep.Slices
import Derived.WalkKit
import Derived.ProofKit
import Derived.ShutString
import Derived.Lib.LaidTab
import Derived.LaidSub
import Derived.MakeChecks
import Derived.Sort.Grow
import Derived.Deep.Draws
import Derived.OwnWalk
import Derived.KernelRfl
import Derived.Test.YtifbhefbhlbofaaDoorProg
import Derived.Shelf.Utf8.RuneCount
import Derived.Shelf.Strings.Search1
import Derived.Shelf.Strings.Search2
import Derived.Shelf.Strings.Search3
import Derived.Shelf.Strings.Cut
import Derived.Shelf.Strings.Count
import Derived.Shelf.LaysM
import Derived.Shelf.Strings.Shaped
import Derived.Shelf.Strings.Split
import Derived.Shelf.Strings.SplitShaped
import Derived.Shelf.Unicode.Decode
import Derived.Shelf.Strings.RuneCount
import Derived.Shelf.Strings.Explode
import Derived.Shelf.Unicode.DecodeSlow
import Derived.Shelf.Unicode.DecodeAny
import Derived.Shelf.Bytes.SlClone
import Derived.Lib.SplitLaws
import Derived.Lib.Bytealg
import Derived.Lib.IndexLaws
import Derived.HandedShaped
import Derived.LaidLaws
import Derived.Shelf.Vars
import Derived.Handed
import Derived.Laws.Bits
set_option maxRecDepth 100000
set_option maxRecDepth 100000
namespace Go.Proofs.YtifbhefbhlbofaaDoor
namespace Pv
set_option linter.unusedVariables false
section
variable {E : Env} {F : Fr} {g g' g1 : Gh} {st st' s : PSt} {a a' : Act} {w w' : World}
def Xt.out:Xt->Exit
 | .normal=>.normal
 | .exit id=>.exit id
 | .ret=>.ret
 | .goto l=>.goto l
theorem stamp_rel {tmf:Nat->Value} (n:Ann) (h:MRel F g st tmf w):∃ g',MRel F g' (stampSt n st) tmf w /\ g'.C=g.C /\ g'.ρ=g.ρ /\ (∀ k σ,σ≠n.id->g'.H k σ=g.H k σ) /\ ∀ k ls,keptL n st k=some (n.id,ls)->g'.H k n.id=ls:=by
  let g':Gh:=⟨g.C,g.blk,g.ρ,fun k σ=>match Nat.beq σ n.id with | true=>(match keptL n st k with | some (_,ls)=>ls | none=>g.H k σ) | false=>g.H k σ,g.ow,g.ver⟩
  have hH:∀ k ls,keptL n st k=some (n.id,ls)->g'.H k n.id=ls:=fun k ls hk=>by
    show (match Nat.beq n.id n.id with | true=>(match keptL n st k with | some (_,ls)=>ls | none=>g.H k n.id) | false=>g.H k n.id)=ls
    rw [show Nat.beq n.id n.id=true by simp,hk]
  have Lc:∀ k σ ls,(stampSt n st).L k=some (σ,ls)->(keptL n st k=some (σ,ls) /\ σ=n.id /\ ∃ σ0 l0,st.L k=some (σ0,l0) /\ ls=l0.map unown) \/ (keptL n st k=none /\ st.L k=some (σ,ls)):=fun k σ ls hL=>by
    have hL':(match keptL n st k with | some x=>some x | none=>st.L k)=some (σ,ls):=hL
    split at hL'
    · rename_i x hx
      rw [hL'] at hx
      obtain ⟨e1,_,σ0,l0,e3,e4⟩:=keptL_some hx
      exact .inl ⟨hx,e1,σ0,l0,e3,e4⟩
    · rename_i hx
      exact .inr ⟨hx,hL'⟩
  have Ls:∀ k y,(stampSt n st).L k=some y -> ∃ z,st.L k=some z:=fun k y hy=>by
    rcases Lc k y.1 y.2 hy with ⟨_,_,σ0,l0,h0,_⟩ | ⟨_,h0⟩ <;> exact ⟨_,h0⟩
  refine ⟨g',⟨h.fr,fun i=>?_,fun k σ ls hL np=>?_,fun k σ ls hL np=>?_,fun k σ ls hL hσ=>?_,h.kn,h.sp,fun d hd=>?_,fun i k hk=>?_,h.blk0,h.blkI,fun k b j x hk hb hL np=>?_,h.blkS,h.blkW,fun j j' x x' hj hj' np np' he=>?_,
    ⟨h.ows.tok,fun k x hL np=>by obtain ⟨z,hz⟩:=Ls k x hL;exact h.ows.loc k z hz np,h.ows.lim,h.ows.fr,h.ows.mono,h.ows.i,h.ows.wr⟩⟩,rfl,rfl,fun k σ hne=>?_,hH⟩
  · exact (h.slots i).gw (g':=g') (Gw.refl w g.C) (fun k _ ho=>⟨ho,rfl,fun b _=>⟨rfl,fun _=>Iff.rfl⟩⟩) (fun _ _=>rfl) (fun _ _ _ _ _=>rfl) (fun k _ _=>.inl ⟨rfl,fun b j s hb=>⟨⟨rfl,fun _=>Iff.rfl⟩,hb⟩⟩)
  · have gwl : ∀ ls, LocOk F g w st.O ls (g.ρ k) -> LocOk F g' w st.O ls (g'.ρ k) := fun ls hl => by
      obtain ⟨cur,T,c1,c2,c3,c4⟩:=hl
      exact ⟨cur,T,c1,c2,c3.gw (g':=g') (Gw.refl w g.C) fun k E e x _ ho=>⟨ho,rfl,fun b _=>⟨rfl,fun _=>Iff.rfl⟩⟩,c4⟩
    rcases Lc k σ ls hL with ⟨_,_,σ0,l0,h0,rfl⟩ | ⟨_,h0⟩
    · exact gwl _ (LocOk.less unown_less (h.locals k σ0 l0 h0 np))
    · exact gwl _ (h.locals k σ ls h0 np)
  · have gwp:∀ ls,PoolOk F g w ls k->PoolOk F g' w ls k:=fun ls hl=>hl.gw (Gw.refl _ _) rfl (fun _=>rfl) fun b j s hb=>⟨⟨rfl,fun _=>Iff.rfl⟩,hb⟩
    rcases Lc k σ ls hL with ⟨_,_,σ0,l0,h0,rfl⟩ | ⟨_,h0⟩
    · have hp:=h.pools k σ0 l0 h0 np
      have hD:∀ l∈l0,isD l=true:=by
        obtain ⟨e,l,h1,_⟩:=hp
        rcases h1 with ⟨v,h1,_⟩ | h1 <;> (rw [h1];intro l hl;rw [List.mem_singleton.1 hl];rfl)
      rw [map_D (fun l hl=>unown_same hl) hD]
      exact gwp _ hp
    · exact gwp _ (h.pools k σ ls h0 np)
  · rcases Lc k σ ls hL with ⟨hk,e,σ0,l0,h0,rfl⟩ | ⟨hk,h0⟩
    · subst e
      exact ⟨hH k _ hk,fun l hl=>by obtain ⟨z,_,rfl⟩:=List.mem_map.1 hl;exact unown_D z⟩
    · obtain ⟨q1,q2⟩:=h.hist k σ ls h0 hσ
      refine ⟨?_,q2⟩
      show (match Nat.beq σ n.id with | true=>(match keptL n st k with | some (_,ls)=>ls | none=>g.H k σ) | false=>g.H k σ)=ls
      rw [hk]
      cases Nat.beq σ n.id <;> exact q1
  · obtain ⟨f1,f2,f3,f4,f5⟩:=h.fresh d hd
    refine ⟨f1,fun k σ ls hL=>?_,f3,?_,f5⟩
    · rcases Lc k σ ls hL with ⟨_,_,σ0,l0,h0,rfl⟩ | ⟨_,h0⟩
      · have hgen : ∀ q : List Leaf, mentLs d (q.map unown) = false := by
          intro q
          induction q with
          | nil=>rfl
          | cons y q ih=>
            show (mentL d (unown y)||mentLs d (q.map unown))=false
            rw [ih]
            cases y <;> rfl
        exact hgen l0
      · exact f2 k σ ls h0
    · show (match keptL n st d with | some x=>some x | none=>st.L d)=none
      have:keptL n st d=none:=by
        unfold keptL
        rw [f4]
        cases hasN n.kept d <;> rfl
      rw [this];exact f4
  · have:=h.locL i k hk
    show (match keptL n st k with | some x=>some x | none=>st.L k).isSome=true
    cases keptL n st k with
    | some x=>rfl
    | none=>exact this
  · obtain ⟨z,hz⟩:=Ls j x hL
    exact h.blkL k b j z hk hb hz np
  · obtain ⟨z,hz⟩:=Ls j x hj
    obtain ⟨z',hz'⟩:=Ls j' x' hj'
    exact h.ρI j j' z z' hz hz' np np' he
  · show (match Nat.beq σ n.id with | true=>_ | false=>g.H k σ)=_
    rw [show Nat.beq σ n.id=false from Bool.eq_false_iff.2 fun e=>hne (Nat.eq_of_beq_eq_true e)]
theorem give_rel {n:Ann} {s:PSt} {R:Type} {q:R} {C:PSt->Option R} {g:Gh} {a:Act} {w:World} (h:AR F g s a w) (hv:giveC n s C=some q):∃ s' g',C s'=some q /\ AR F g' s' a w /\ g'.ρ=g.ρ /\ g'.H=g.H /\ Gw w g.C w g'.C:=by
 unfold giveC at hv
 split at hv
 ·exact ⟨s,g,hv,h,rfl,rfl,Gw.refl _ _⟩
 ·rename_i k K hK
  obtain ⟨hall,hv⟩:=chk_some hv
  have hKnp:∀ j,hasN (k::K) j=true->isPool j=false:=fun j hj=>by
   rw [<-hK] at hj
   obtain ⟨i,_,hi⟩:=List.mem_flatMap.1 (hasN_iff.1 hj)
   have h3:=h.rel.slots i
   split at hi
   ·rename_i hrow
    rw [hrow] at h3
    rw [List.mem_singleton.1 hi]
    exact h3.1
   ·cases hi
  exact ⟨_,lendG g s (k::K),hv,⟨h.size,h.defers,lend_rel (k::K) _ hKnp h.rel fun i hi=>List.all_eq_true.1 hall i (hasN_iff.1 hi)⟩,rfl,rfl,⟨fun _ _ hc hC=>⟨hc,.inl hC⟩,fun _ _ _ q=>q⟩⟩
theorem kept_same {n:Ann} {I:Nat->Prop} {M:Nat->Prop} (hid:n.id≠0) (hI:¬ I n.id) (hl:Lft M I g1 a w g' a' w') (h1:∀ k ls,keptL n st k=some (n.id,ls)->g1.H k n.id=ls) (h:MRel F g' s (tm a') w') (hk:keptOk n s=true) :
  ∀ k,k∈n.kept -> ∀ σ0 ls0,st.L k=some (σ0,ls0) -> ∃ σ ls,s.L k=some (σ,ls) /\ ls.map unown=ls0.map unown:=fun k hkm σ0 ls0 h0=>by
 unfold keptOk at hk
 have h2:=List.all_eq_true.1 hk k hkm
 split at h2
 ·rename_i σ ls hL
  have e:σ=n.id:=Nat.eq_of_beq_eq_true h2
  subst e
  obtain ⟨q1,q2⟩:=h.hist k _ ls hL hid
  have hkl:keptL n st k=some (n.id,ls0.map unown):=by
   unfold keptL
   rw [hasN_iff.2 hkm,h0]
  have q3:=h1 k _ hkl
  have q4:=hl.H k n.id hI hid
  refine ⟨_,ls,hL,?_⟩
  rw [map_D (fun l hl=>unown_same hl) q2,<- q1,q4,q3]
 ·cases h2
theorem iter_of_loop {S R:Type} {body:S->Option (R⊕S)} {x:S} {r:R} (h:loopC body x=some r):∃ n,iterC body n x=some r:=by
 unfold loopC at h
 split at h
 ·rename_i hex
  injection h with h
  obtain ⟨n,hn⟩:=hex.choose_spec
  exact ⟨n,by rw [hn,h]⟩
 ·cases h
theorem iter_succ {S R:Type} {body:S->Option (R⊕S)} {k:Nat} {x:S} {r:R} (h:iterC body (k+1) x=some r):body x=some (.inl r) \/ ∃ x2,body x=some (.inr x2) /\ iterC body k x2=some r:=by
 unfold iterC at h
 split at h
 ·cases h
 ·rename_i r' hb
  injection h with h
  exact .inl (by rw [hb,h])
 ·rename_i x2 hb
  exact .inr ⟨x2,hb,h⟩
theorem join_some {S R:Type} {A:Option (R⊕S)} {B:S->Option R} {r:R} (h:joinC A B=some r):A=some (.inl r) \/ ∃ x,A=some (.inr x) /\ B x=some r:=by
 unfold joinC at h
 split at h
 ·cases h
 ·injection h with h;exact .inl (by rw [h])
 ·rename_i x;exact .inr ⟨x,rfl,h⟩
structure LftX (x:Xt) (M I:Nat->Prop) (g:Gh) (a:Act) (w:World) (g':Gh) (a':Act) (w':World):Prop where
 ρ:∀ k,¬ M k->g'.ρ k=g.ρ k
 lft:x≠.ret->Lft M I g a w g' a' w'
theorem Lft.x {M I:Nat->Prop} {x:Xt} (h:Lft M I g a w g' a' w'):LftX x M I g a w g' a' w':=⟨h.ρ,fun _=>h⟩
theorem LftX.mono {M I M' I':Nat->Prop} {x:Xt} (h:LftX x M I g a w g' a' w') (hm:∀ i,M i->M' i) (hi:∀ i,I i->I' i):LftX x M' I' g a w g' a' w':=
 ⟨fun i hn=>h.ρ i fun e=>hn (hm i e),fun e=>(h.lft e).mono hm hi⟩
theorem Lft.transX {M I:Nat->Prop} {x:Xt} {g2:Gh} {a2:Act} {w2:World} (h:Lft M I g a w g' a' w') (k:LftX x M I g' a' w' g2 a2 w2):LftX x M I g a w g2 a2 w2:=
 ⟨fun i hi=>(k.ρ i hi).trans (h.ρ i hi),fun e=>h.trans (k.lft e)⟩
def HandS (P:Program) (F:Fr) (c:Code) (h:PSt->Option (Bool×PSt)):Prop:=
 ∀ (g:Gh) (st st':PSt) (a:Act) (w:World),AR F g st a w->h st=some (true,st')->c.wp P (fun e a' w'=>e=.ret /\ ∃ g',AR F g' st' a' w' /\ g'.ρ=g.ρ) a w
def PostC {R:Type} (F:Fr) (M I:Nat->Prop) (g:Gh) (a:Act) (w:World) (Q:Xt->PSt->Option R) (r:R):Exit->Act->World->Prop:=fun e a' w'=>∃ x st' g',e=x.out /\ Q x st'=some r /\ AR F g' st' a' w' /\ LftX x M I g a w g' a' w'
theorem PostC.mono {R R':Type} {M I M' I':Nat->Prop} {Q:Xt->PSt->Option R} {r:R} {Q':Xt->PSt->Option R'} {r':R'} {g0:Gh} {a0:Act} {w0:World} {e:Exit} (h:PostC F M I g a w Q r e a' w') (hm:∀ i,M i->M' i) (hi:∀ i,I i->I' i) (hf:Lft M' I' g0 a0 w0 g a w)
  (hq:∀ x s,Q x s=some r->Q' x s=some r'):PostC F M' I' g0 a0 w0 Q' r' e a' w':=by
 obtain ⟨x,st',g',he,hQ,hR,hl⟩:=h
 exact ⟨x,st',g',he,hq _ _ hQ,hR,hf.transX (hl.mono hm hi)⟩
theorem wp_scope_ghost {P:Program} {Q:Exit->Act->World->Prop} {a:Act} {w:World} {c:Code} (I:Nat->Nat->Act->World->Prop)
  (first:c.wp P (fun e a' w'=>match e with | .goto l=>(∃ n,I l n a' w' /\ (findLabel c l).isSome=true) \/ (findLabel c l=none /\ Q (.goto l) a' w') | e=>Q e a' w') a w)
  (pass:∀ l n a w rest,findLabel c l=some rest->I l n a w->rest.wp P (fun e a' w'=>match e with | .goto l'=>(∃ n',n' < n /\ I l' n' a' w' /\ (findLabel c l').isSome=true) \/ (findLabel c l'=none /\ Q (.goto l') a' w') | e=>Q e a' w') a w):(Code.scope c).wp P Q a w:=by
 intro b k cs
 have key:∀ n l rest a w,findLabel c l=some rest->I l n a w -> ∃ e a' w',Q e a' w' /\ Arrives P (lone (b.at a (.code rest::.inScope c::k)) cs w) b k cs e a' w':=by
  intro n
  induction n using Nat.strongRecOn with
  | _ n ih=>
   intro l rest a w hf hI
   obtain ⟨e,a₁,w₁,hq,harr⟩:=pass l n a w rest hf hI b (.inScope c::k) cs
   cases e with
   | normal=>exact ⟨.normal,a₁,w₁,hq,Steps.trans harr (.one step_inScope)⟩
   | exit id=>exact ⟨.exit id,a₁,w₁,hq,fun k' hk=>harr k' (by simp [exitTo,hk])⟩
   | goto l'=>
    rcases hq with ⟨n',hlt,hI',hs⟩ | ⟨hn,hq⟩
    ·obtain ⟨rest',hr'⟩:=Option.isSome_iff_exists.1 hs
     obtain ⟨e₂,a₂,w₂,hq₂,harr₂⟩:=ih n' hlt l' rest' a₁ w₁ hr' hI'
     exact ⟨e₂,a₂,w₂,hq₂,.of_steps (harr _ (by simp [gotoIn,hr'])) harr₂⟩
    ·exact ⟨.goto l',a₁,w₁,hq,fun k' hk=>harr k' (by simp [gotoIn,hn,hk])⟩
   | ret=>exact ⟨_,a₁,w₁,hq,harr⟩
   | panic ch=>exact ⟨_,a₁,w₁,hq,harr⟩
   | outgrown=>exact ⟨_,a₁,w₁,hq,harr⟩
 obtain ⟨e,a₁,w₁,hq,harr⟩:=first b (.inScope c::k) cs
 cases e with
 | normal=>exact ⟨.normal,a₁,w₁,hq,.head step_scope (Steps.trans harr (.one step_inScope))⟩
 | exit id=>exact ⟨.exit id,a₁,w₁,hq,fun k' hk=>.head step_scope (harr k' (by simp [exitTo,hk]))⟩
 | goto l'=>
  rcases hq with ⟨n',hI',hs⟩ | ⟨hn,hq⟩
  ·obtain ⟨rest',hr'⟩:=Option.isSome_iff_exists.1 hs
   obtain ⟨e₂,a₂,w₂,hq₂,harr₂⟩:=key n' l' rest' a₁ w₁ hr' hI'
   exact ⟨e₂,a₂,w₂,hq₂,.of_steps (.head step_scope (harr _ (by simp [gotoIn,hr']))) harr₂⟩
  ·exact ⟨.goto l',a₁,w₁,hq,fun k' hk=>.head step_scope (harr k' (by simp [gotoIn,hn,hk]))⟩
 | ret=>exact ⟨_,a₁,w₁,hq,.of_steps (.one step_scope) harr⟩
 | panic ch=>exact ⟨_,a₁,w₁,hq,.of_steps (.one step_scope) harr⟩
 | outgrown=>exact ⟨_,a₁,w₁,hq,.of_steps (.one step_scope) harr⟩
theorem codeLabs_none:∀ {c:Code} {l:Nat},hasN (codeLabs c) l=false->findLabel c l=none:=by
 intro c
 induction c with
 | seq a b iha ihb=>
  intro l h
  have h':¬ l∈codeLabs a++codeLabs b:=fun hm=>by rw [show hasN (codeLabs (.seq a b)) l=true from hasN_iff.2 hm] at h;cases h
  unfold findLabel
  rw [iha (Bool.eq_false_iff.2 fun e=>h' (List.mem_append_left _ (hasN_iff.1 e)))]
  exact ihb (Bool.eq_false_iff.2 fun e=>h' (List.mem_append_right _ (hasN_iff.1 e)))
 | label l'=>
  intro l h
  unfold findLabel
  rw [if_neg]
  intro e
  have:l'=l:=by simpa using e
  rw [this,show hasN (codeLabs (.label l)) l=true from hasN_iff.2 List.mem_cons_self] at h
  cases h
 | _=>intro l h;rfl
theorem codeLabs_some:∀ {c:Code} {l:Nat},hasN (codeLabs c) l=true -> ∃ rest,findLabel c l=some rest:=by
 intro c
 induction c with
 | seq a b iha ihb=>
  intro l h
  unfold findLabel
  cases hf:findLabel a l with
  | some rest=>exact ⟨_,rfl⟩
  | none=>
   rcases List.mem_append.1 (hasN_iff.1 h) with h | h
   ·obtain ⟨rest,hr⟩:=iha (hasN_iff.2 h)
    rw [hr] at hf;cases hf
   ·exact ihb (hasN_iff.2 h)
 | label l'=>
  intro l h
  have:l=l':=by simpa [codeLabs] using hasN_iff.1 h
  subst this
  unfold findLabel
  rw [if_pos (by simp)]
  exact ⟨_,rfl⟩
 | _=>intro l h;cases h
theorem labs_none:∀ {c:AC} {l:Nat},hasN c.labs l=false->findLabel c.erase l=none
 | .seq a b,l,h=>by
  have h':¬ l∈a.labs++b.labs:=fun hm=>by rw [show hasN (AC.seq a b).labs l=true from hasN_iff.2 hm] at h;cases h
  have ha:=labs_none (c:=a) (l:=l) (Bool.eq_false_iff.2 fun e=>h' (List.mem_append_left _ (hasN_iff.1 e)))
  have hb:=labs_none (c:=b) (l:=l) (Bool.eq_false_iff.2 fun e=>h' (List.mem_append_right _ (hasN_iff.1 e)))
  show findLabel (.seq a.erase b.erase) l=none
  unfold findLabel
  rw [ha];exact hb
 | .join n a b,l,h=>by
  have h':¬ l∈a.labs++b.labs:=fun hm=>by rw [show hasN (AC.join n a b).labs l=true from hasN_iff.2 hm] at h;cases h
  have ha:=labs_none (c:=a) (l:=l) (Bool.eq_false_iff.2 fun e=>h' (List.mem_append_left _ (hasN_iff.1 e)))
  have hb:=labs_none (c:=b) (l:=l) (Bool.eq_false_iff.2 fun e=>h' (List.mem_append_right _ (hasN_iff.1 e)))
  show findLabel (.seq a.erase b.erase) l=none
  unfold findLabel
  rw [ha];exact hb
 | .label l',l,h=>by
  show findLabel (.label l') l=none
  unfold findLabel
  rw [if_neg]
  intro e
  have:l'=l:=by simpa using e
  rw [this,show hasN (AC.label l).labs l=true from hasN_iff.2 List.mem_cons_self] at h
  cases h
 | .skip,_,_=>rfl
 | .region _ _ _,_,_=>rfl
 | .cond _ _ _,_,_=>rfl
 | .block _ _,_,_=>rfl
 | .loop _ _,_,_=>rfl
 | .exit _,_,_=>rfl
 | .ret,_,_=>rfl
 | .goto _,_,_=>rfl
 | .scope _ _,_,_=>rfl
 | .hand _ _,_,h=>codeLabs_none h
theorem labs_some:∀ {c:AC} {l:Nat},hasN c.labs l=true -> ∃ rest,findLabel c.erase l=some rest
 | .seq a b,l,h=>by
  show ∃ rest,findLabel (.seq a.erase b.erase) l=some rest
  unfold findLabel
  cases hf:findLabel a.erase l with
  | some rest=>exact ⟨_,rfl⟩
  | none=>
   rcases List.mem_append.1 (hasN_iff.1 h) with h | h
   ·obtain ⟨rest,hr⟩:=labs_some (c:=a) (hasN_iff.2 h)
    rw [hr] at hf;cases hf
   ·exact labs_some (c:=b) (hasN_iff.2 h)
 | .join n a b,l,h=>by
  show ∃ rest,findLabel (.seq a.erase b.erase) l=some rest
  unfold findLabel
  cases hf:findLabel a.erase l with
  | some rest=>exact ⟨_,rfl⟩
  | none=>
   rcases List.mem_append.1 (hasN_iff.1 h) with h | h
   ·obtain ⟨rest,hr⟩:=labs_some (c:=a) (hasN_iff.2 h)
    rw [hr] at hf;cases hf
   ·exact labs_some (c:=b) (hasN_iff.2 h)
 | .label l',l,h=>by
  have:l=l':=by simpa [AC.labs] using hasN_iff.1 h
  subst this
  show ∃ rest,findLabel (.label l) l=some rest
  unfold findLabel
  rw [if_pos (by simp)]
  exact ⟨_,rfl⟩
 | .skip,_,h=>by cases h
 | .region _ _ _,_,h=>by cases h
 | .cond _ _ _,_,h=>by cases h
 | .block _ _,_,h=>by cases h
 | .loop _ _,_,h=>by cases h
 | .exit _,_,h=>by cases h
 | .ret,_,h=>by cases h
 | .goto _,_,h=>by cases h
 | .scope _ _,_,h=>by cases h
 | .hand _ _,_,h=>codeLabs_some h
def PVS (E:Env) (F:Fr) (c:AC):Prop:=∀ {R:Type} (Q:Xt->PSt->Option R) (st:PSt) (r:R) (g:Gh) (a:Act) (w:World),c.good=true->(∀ d∈c.dsts,d < F.n)->AR F g st a w->pv E c Q st=some r ->
 c.erase.wp E.P (PostC F (· ∈ c.dsts) (· ∈ c.ids) g a w Q r) a w
def FRS (E:Env) (F:Fr) (c:AC):Prop:=∀ {R:Type} (l:Nat) (rest:Code) (Q:Xt->PSt->Option R) (st:PSt) (r:R) (g:Gh) (a:Act) (w:World),findLabel c.erase l=some rest->c.labOk=true->c.good=true->(∀ d∈c.dsts,d < F.n)->AR F g st a w->pvFrom E c l Q st=some r ->
 rest.wp E.P (PostC F (· ∈ c.dsts) (· ∈ c.ids) g a w Q r) a w
theorem lt_pool {x n:Nat} (h:x < n) (hn:n<=1000000):isPool x=false:=by
 show Nat.ble 1000000 x=false
 rw [<-Bool.not_eq_true,Nat.ble_eq]
 omega
theorem frs_none {c:AC} (h:∀ l,findLabel c.erase l=none):FRS E F c:=fun l rest Q st r g a w hf=>by rw [h l] at hf;cases hf
theorem pv_both (hn6:F.n<=1000000) (hE:E.okF F):∀ c:AC,(∀ p∈c.hands,HandS E.P F p.1 p.2)->PVS E F c /\ FRS E F c:=by
  intro c
  induction c with
  | hand c h=>
    intro hh
    refine ⟨?_,?_⟩
    · intro R Q st r g a w _ _ hA hv
      unfold pv at hv
      split at hv
      · rename_i b s hs
        obtain ⟨rfl,hv⟩:=chk_some hv
        refine Code.wp_mono (fun e a' w' hp=>?_) (hh (c,h) List.mem_cons_self g st s a w hA hs)
        obtain ⟨rfl,g',h1,h2⟩:=hp
        exact ⟨.ret,s,g',rfl,hv,h1,fun k _=>by rw [h2],fun e=>(e rfl).elim⟩
      · cases hv
    · intro R l rest Q st r g a w hf hlo hg hd h hv
      unfold pvFrom at hv
      cases hv
  | skip=>
    intro _
    refine ⟨?_,frs_none fun _=>rfl⟩
    intro R Q st r g a w _ _ h hv;exact wp_skip ⟨.normal,st,g,rfl,hv,h,(Lft.refl _ _).x⟩
  | exit id=>
    intro _
    refine ⟨?_,frs_none fun _=>rfl⟩
    intro R Q st r g a w _ _ h hv;exact wp_exit ⟨.exit id,st,g,rfl,hv,h,(Lft.refl _ _).x⟩
  | ret=>
    intro _
    refine ⟨?_,frs_none fun _=>rfl⟩
    intro R Q st r g a w _ _ h hv;exact wp_ret ⟨.ret,st,g,rfl,hv,h,(Lft.refl _ _).x⟩
  | region id ops d=>
    intro _
    refine ⟨?_,frs_none fun _=>rfl⟩
    intro R Q st r g a w _ hd h hv
    have hmem:∀ o∈ops.toList,∀ x,o.dst=some x->x < F.n /\ x∈(AC.region id ops d).dsts:=fun o ho x hx=>by
      have hm:x∈(AC.region id ops d).dsts:=List.mem_filterMap.2 ⟨o,ho,hx⟩
      exact ⟨hd x hm,hm⟩
    have h':AR F g (sanSt (madeBy ops.toList) st) a w:=⟨h.size,h.defers,san_rel _ (fun x hx=>by
      obtain ⟨o,ho,hm⟩:=List.mem_flatMap.1 (hasN_iff.1 hx)
      have hox:o.dst=some x:=by
        split at hm
        all_goals first
          | (cases hm;done)
          | (rw [List.mem_singleton.1 hm];assumption)
      exact lt_pool (hmem o ho x hox).1 hn6) h.rel⟩
    cases d with
    | true=>
      refine draw_sound (M:=(· ∈ (AC.region id ops true).dsts)) hE hmem h' hv fun a' w' g' st' hK h2 hl=>⟨.normal,st',g',rfl,hK,h2,(hl.mono (fun _ h=>h) (fun _ h=>h.elim)).x⟩
    | false=>
      refine wp_region_list (pvOps_sound (M:=(· ∈ (AC.region id ops false).dsts)) hE ops.toList [] g _ a w _ hmem h' hv fun a' w' g' tr' st' hK h2 hl=>⟨.normal,st',g',rfl,hK,h2,(hl.mono (fun _ h=>h) (fun _ h=>h.elim)).x⟩)
  | seq x y ihx ihy=>
    intro hh
    obtain ⟨ihx,fx⟩:=ihx fun p hp=>hh p (List.mem_append_left _ hp)
    obtain ⟨ihy,fy⟩:=ihy fun p hp=>hh p (List.mem_append_right _ hp)
    refine ⟨?_,?_⟩
    case refine_2=>
      intro R l rest Q st r g a w hf hlo hg hd h hv
      simp only [AC.good,Bool.and_eq_true] at hg
      simp only [AC.labOk,Bool.and_eq_true] at hlo
      have hdx:∀ d∈x.dsts,d < F.n:=fun d hm=>hd d (List.mem_append_left _ hm)
      have hdy:∀ d∈y.dsts,d < F.n:=fun d hm=>hd d (List.mem_append_right _ hm)
      have hf:(match findLabel x.erase l with | some rest=>some (.seq rest y.erase) | none=>findLabel y.erase l)=some rest:=hf
      unfold pvFrom at hv
      cases hx:hasN x.labs l with
      | false=>
        rw [hx] at hv
        rw [labs_none hx] at hf
        exact Code.wp_mono (fun e a2 w2 hp=>hp.mono (fun i hi=>List.mem_append_right _ hi) (fun i hi=>List.mem_append_right _ hi) (Lft.refl _ _) fun _ _ q=>q) (fy l rest Q st r g a w hf hlo.2 hg.2 hdy h hv)
      | true=>
        rw [hx] at hv
        obtain ⟨r1,hr1⟩:=labs_some hx
        rw [hr1] at hf
        injection hf with hf
        subst hf
        refine wp_seq (Code.wp_mono (fun e a' w' hp=>?_) (fx l r1 _ st r g a w hr1 hlo.1 hg.1 hdx h hv))
        obtain ⟨xt,st',g',rfl,hQ,hR,hl⟩:=hp
        have hl':LftX xt (· ∈ (AC.seq x y).dsts) (· ∈ (AC.seq x y).ids) g a w g' a' w':=hl.mono (fun i hi=>List.mem_append_left _ hi) (fun i hi=>List.mem_append_left _ hi)
        cases xt with
        | exit i=>exact ⟨.exit i,st',g',rfl,hQ,hR,hl'⟩
        | goto i=>exact ⟨.goto i,st',g',rfl,hQ,hR,hl'⟩
        | ret=>exact ⟨.ret,st',g',rfl,hQ,hR,hl'⟩
        | normal=>
          refine Code.wp_mono (fun e a2 w2 hp=>?_) (ihy Q st' r g' a' w' hg.2 hdy hR hQ)
          exact hp.mono (fun i hi=>List.mem_append_right _ hi) (fun i hi=>List.mem_append_right _ hi) (hl'.lft (by intro e;cases e)) fun _ _ q=>q
    intro R Q st r g a w hg hd h hv
    simp only [AC.good,Bool.and_eq_true] at hg
    have hdx:∀ d∈x.dsts,d < F.n:=fun d hm=>hd d (List.mem_append_left _ hm)
    have hdy:∀ d∈y.dsts,d < F.n:=fun d hm=>hd d (List.mem_append_right _ hm)
    refine wp_seq (Code.wp_mono (fun e a' w' hp=>?_) (ihx _ st r g a w hg.1 hdx h hv))
    obtain ⟨xt,st',g',rfl,hQ,hR,hl⟩:=hp
    have hl':LftX xt (· ∈ (AC.seq x y).dsts) (· ∈ (AC.seq x y).ids) g a w g' a' w':=hl.mono (fun i hi=>List.mem_append_left _ hi) (fun i hi=>List.mem_append_left _ hi)
    cases xt with
    | exit i=>exact ⟨.exit i,st',g',rfl,hQ,hR,hl'⟩
    | goto i=>exact ⟨.goto i,st',g',rfl,hQ,hR,hl'⟩
    | ret=>exact ⟨.ret,st',g',rfl,hQ,hR,hl'⟩
    | normal=>
      refine Code.wp_mono (fun e a2 w2 hp=>?_) (ihy Q st' r g' a' w' hg.2 hdy hR hQ)
      exact hp.mono (fun i hi=>List.mem_append_right _ hi) (fun i hi=>List.mem_append_right _ hi) (hl'.lft (by intro e;cases e)) fun _ _ q=>q
  | join n x y ihx ihy=>
    intro hh
    obtain ⟨ihx,fx⟩:=ihx fun p hp=>hh p (List.mem_append_left _ hp)
    obtain ⟨ihy,fy⟩:=ihy fun p hp=>hh p (List.mem_append_right _ hp)
    refine ⟨?_,?_⟩
    case refine_2=>
      intro R l rest Q st r g a w hf hlo hg hd h hv
      unfold pvFrom at hv
      cases hv
    intro R Q st r g a w hg hd h hv
    simp only [AC.good,Bool.and_eq_true] at hg
    obtain ⟨⟨⟨⟨hg1,hg2⟩,hg3⟩,hg4⟩,hg5⟩:=hg
    have hdx:∀ d∈x.dsts,d < F.n:=fun d hm=>hd d (List.mem_append_left _ hm)
    have hdy:∀ d∈y.dsts,d < F.n:=fun d hm=>hd d (List.mem_append_right _ hm)
    have hM:∀ d,d∈x.dsts->n.has d=true:=fun d hm=>List.all_eq_true.1 hg3 d hm
    simp only [okIds,Bool.and_eq_true,Bool.not_eq_true'] at hg4
    have hid:n.id≠0:=fun e=>by have h4:=hg4.1;rw [e] at h4;cases h4
    have hnot:¬ n.id∈x.ids:=fun hm=>by have h4:=hg4.2;rw [hasN_iff.2 hm] at h4;cases h4
    obtain ⟨g1,hrel1,hC1,hρ1,hH1,hK1⟩:=stamp_rel n h.rel
    have h1:AR F g1 (stampSt n st) a w:=⟨h.size,h.defers,hrel1⟩
    have tolx:∀ {g' a' w'},Lft (· ∈ x.dsts) (· ∈ x.ids) g1 a w g' a' w'->Lft (· ∈ x.dsts) (· ∈ (AC.join n x y).ids) g a w g' a' w':=fun {g' a' w'} hl=>
      ⟨fun i hi=>hl.tmp i hi,fun k hk=>(hl.ρ k hk).trans (by rw [hρ1]),by have:=hl.gw;rw [hC1] at this;exact this,
        fun k σ hσ h0=>(hl.H k σ (fun hm=>hσ (List.mem_cons_of_mem _ (List.mem_append_left _ hm))) h0).trans (hH1 k σ fun e=>hσ (by rw [e];exact List.mem_cons_self))⟩
    have tol:∀ {g' a' w'},Lft (· ∈ x.dsts) (· ∈ x.ids) g1 a w g' a' w'->Lft (· ∈ (AC.join n x y).dsts) (· ∈ (AC.join n x y).ids) g a w g' a' w':=fun {g' a' w'} hl=>(tolx hl).mono (fun i hi=>List.mem_append_left _ hi) (fun _ hi=>hi)
    have tolX:∀ {x' g' a' w'},LftX x' (· ∈ x.dsts) (· ∈ x.ids) g1 a w g' a' w'->LftX x' (· ∈ (AC.join n x y).dsts) (· ∈ (AC.join n x y).ids) g a w g' a' w':=fun {x' g' a' w'} hl=>⟨fun k hk=>(hl.ρ k fun hm=>hk (List.mem_append_left _ hm)).trans (by rw [hρ1]),fun e=>tol (hl.lft e)⟩
    rcases join_some hv with hv | ⟨xd,hv,hb⟩
    · refine wp_seq (Code.wp_mono (fun e a' w' hp=>?_) (ihx _ _ _ g1 a w hg1 hdx h1 hv))
      obtain ⟨xt,st',g',rfl,hQ,hR,hl⟩:=hp
      cases xt with
      | exit i=>
        obtain ⟨q,hq,he⟩:=Option.map_eq_some_iff.1 hQ
        injection he with he
        subst he
        exact ⟨.exit i,st',g',rfl,hq,hR,tolX hl⟩
      | goto i=>
        obtain ⟨q,hq,he⟩:=Option.map_eq_some_iff.1 hQ
        injection he with he
        subst he
        exact ⟨.goto i,st',g',rfl,hq,hR,tolX hl⟩
      | ret=>
        obtain ⟨q,hq,he⟩:=Option.map_eq_some_iff.1 hQ
        injection he with he
        subst he
        exact ⟨.ret,st',g',rfl,hq,hR,tolX hl⟩
      | normal=>
        exfalso
        simp only at hQ
        obtain ⟨s2,g2,hQ,_⟩:=give_rel hR hQ
        split at hQ
        · obtain ⟨q,hq,he⟩:=Option.map_eq_some_iff.1 hQ
          cases he
        · cases hQ
    · refine wp_seq (Code.wp_mono (fun e a' w' hp=>?_) (ihx _ _ _ g1 a w hg1 hdx h1 hv))
      obtain ⟨xt,st',g',rfl,hQ,hR,hl⟩:=hp
      cases xt with
      | exit i=>obtain ⟨q,hq,he⟩:=Option.map_eq_some_iff.1 hQ;cases he
      | goto i=>obtain ⟨q,hq,he⟩:=Option.map_eq_some_iff.1 hQ;cases he
      | ret=>obtain ⟨q,hq,he⟩:=Option.map_eq_some_iff.1 hQ;cases he
      | normal=>
        simp only at hQ
        obtain ⟨s2,g3,hQ,hR,f1,f2,f3⟩:=give_rel hR hQ
        split at hQ
        · rename_i hko
          obtain ⟨q,hq,he⟩:=Option.map_eq_some_iff.1 hQ
          injection he with he
          subst he
          split at hb
          · rename_i hd' hhd
            have hl:=(hl.lft (by intro e;cases e)).trans ⟨fun _ _=>rfl,fun k _=>by rw [f1],f3,fun k σ _ _=>by rw [f2]⟩
            have hks:=kept_same hid hnot hl hK1 hR.rel hko
            obtain ⟨g2,hrel2,e1,e2,e3,e4⟩:=head_rel (M:=(· ∈ x.dsts)) (n:=n) hg5 h.rel (tolx hl) hM hR.rel hq hks hhd
            refine Code.wp_mono (fun e a2 w2 hp=>?_) (ihy Q hd' r g2 a' w' hg2 hdy ⟨hR.size,hR.defers,hrel2⟩ hb)
            refine hp.mono (fun i hi=>List.mem_append_right _ hi) (fun i hi=>List.mem_cons_of_mem _ (List.mem_append_right _ hi)) ?_ fun _ _ q=>q
            exact (tol hl).trans ⟨fun _ _=>rfl,fun k _=>by rw [e2],by rw [e1];exact Gw.refl _ _,fun k σ hσ _=>e3 k σ fun e=>hσ (by rw [e];exact List.mem_cons_self)⟩
          · cases hb
        · cases hQ
  | label l'=>
    intro _
    refine ⟨?_,?_⟩
    · intro R Q st r g a w _ _ h hv;exact wp_label ⟨.normal,st,g,rfl,hv,h,(Lft.refl _ _).x⟩
    · intro R l rest Q st r g a w hf _ _ _ h hv
      have hf:(if l'==l then some Code.skip else none)=some rest:=hf
      split at hf
      · injection hf with hf
        subst hf
        exact wp_skip ⟨.normal,st,g,rfl,hv,h,(Lft.refl _ _).x⟩
      · cases hf
  | goto l=>
    intro _
    refine ⟨?_,frs_none fun _=>rfl⟩
    intro R Q st r g a w _ _ h hv;exact wp_goto ⟨.goto l,st,g,rfl,hv,h,(Lft.refl _ _).x⟩
  | scope n b ih=>
    intro hh
    obtain ⟨ih,fb⟩:=ih hh
    refine ⟨?_,frs_none fun _=>rfl⟩
    intro R Q st r g a w hg hd h hv
    simp only [AC.good,Bool.and_eq_true] at hg
    obtain ⟨⟨⟨⟨hg1,hg3⟩,hg4⟩,hg5⟩,hg6⟩:=hg
    have hM:∀ d,d∈b.dsts->n.has d=true:=fun d hm=>List.all_eq_true.1 hg3 d hm
    simp only [okIds,Bool.and_eq_true,Bool.not_eq_true'] at hg4
    have hid:n.id≠0:=fun e=>by have h4:=hg4.1;rw [e] at h4;cases h4
    have hnot:¬ n.id∈b.ids:=fun hm=>by have h4:=hg4.2;rw [hasN_iff.2 hm] at h4;cases h4
    obtain ⟨g1,hrel1,hC1,hρ1,hH1,hK1⟩:=stamp_rel n h.rel
    have h1:AR F g1 (stampSt n st) a w:=⟨h.size,h.defers,hrel1⟩
    have tol:∀ {g' a' w'},Lft (· ∈ b.dsts) (· ∈ b.ids) g1 a w g' a' w'->Lft (· ∈ b.dsts) (· ∈ (AC.scope n b).ids) g a w g' a' w':=fun {g' a' w'} hl=>
      ⟨fun i hi=>hl.tmp i hi,fun k hk=>(hl.ρ k hk).trans (by rw [hρ1]),by have:=hl.gw;rw [hC1] at this;exact this,
        fun k σ hσ h0=>(hl.H k σ (fun hm=>hσ (List.mem_cons_of_mem _ hm)) h0).trans (hH1 k σ fun e=>hσ (by rw [e];exact List.mem_cons_self))⟩
    have tolX:∀ {x' g' a' w'},LftX x' (· ∈ b.dsts) (· ∈ b.ids) g1 a w g' a' w'->LftX x' (· ∈ b.dsts) (· ∈ (AC.scope n b).ids) g a w g' a' w':=fun {x' g' a' w'} hl=>⟨fun k hk=>(hl.ρ k hk).trans (by rw [hρ1]),fun e=>tol (hl.lft e)⟩
    rcases join_some hv with hv | ⟨⟨l0,x0⟩,hv,hb⟩
    · refine wp_scope_ghost (fun _ _ _ _=>False) (Code.wp_mono (fun e a' w' hp=>?_) (ih _ _ _ g1 a w hg1 hd h1 hv)) (fun _ _ _ _ _ _ hF=>hF.elim)
      obtain ⟨xt,st',g',rfl,hQ,hR,hl⟩:=hp
      cases xt with
      | exit i=>
        obtain ⟨q,hq,he⟩:=Option.map_eq_some_iff.1 hQ
        injection he with he
        subst he
        exact ⟨.exit i,st',g',rfl,hq,hR,tolX hl⟩
      | normal=>
        obtain ⟨q,hq,he⟩:=Option.map_eq_some_iff.1 hQ
        injection he with he
        subst he
        exact ⟨.normal,st',g',rfl,hq,hR,tolX hl⟩
      | ret=>
        obtain ⟨q,hq,he⟩:=Option.map_eq_some_iff.1 hQ
        injection he with he
        subst he
        exact ⟨.ret,st',g',rfl,hq,hR,tolX hl⟩
      | goto i=>
        simp only at hQ
        cases hi:hasN b.labs i with
        | true=>
          rw [hi] at hQ
          simp only at hQ
          split at hQ
          · obtain ⟨q,hq,he⟩:=Option.map_eq_some_iff.1 hQ
            cases he
          · cases hQ
        | false=>
          rw [hi] at hQ
          obtain ⟨q,hq,he⟩:=Option.map_eq_some_iff.1 hQ
          injection he with he
          subst he
          exact .inr ⟨labs_none hi,.goto i,st',g',rfl,hq,hR,tolX hl⟩
    · obtain ⟨k0,hk0⟩:=iter_of_loop hb
      obtain ⟨B,hk0,hB⟩:∃ B:Nat×n.D->Option (R⊕(Nat×n.D)),iterC B k0 (l0,x0)=some r /\ ∀ p,B p=(match headSt n st p.2 with
        | some h=>pvFrom E b p.1 (fun x s=>match x with
          | .goto l=>match hasN b.labs l with
            | true=>match keptOk n s with | true=>(collect n s).map fun y=>.inr (l,y) | false=>none
            | false=>(Q (.goto l) s).map .inl
          | x=>(Q x s).map .inl) h
        | none=>none):=⟨_,hk0,fun _=>rfl⟩
      have mk : ∀ {g' a' w' s x hd'}, AR F g' s a' w' -> Lft (· ∈ b.dsts) (· ∈ (AC.scope n b).ids) g a w g' a' w' -> collect n s = some x -> (∀ k, k ∈ n.kept -> ∀ σ0 ls0, st.L k = some (σ0, ls0) -> ∃ σ ls, s.L k = some (σ, ls) /\ ls.map unown = ls0.map unown) -> headSt n st x = some hd' ->
          ∃ g2,AR F g2 hd' a' w' /\ Lft (· ∈ b.dsts) (· ∈ (AC.scope n b).ids) g a w g2 a' w' /\ ∀ k ls,keptL n st k=some (n.id,ls)->g2.H k n.id=ls:=fun {g' a' w' s x hd'} hs hl hc hks hhd=>by
        obtain ⟨g2,hrel2,e1,e2,e3,e4⟩:=head_rel (M:=(· ∈ b.dsts)) (n:=n) hg5 h.rel hl hM hs.rel hc hks hhd
        exact ⟨g2,⟨hs.size,hs.defers,hrel2⟩,hl.trans ⟨fun _ _=>rfl,fun k _=>by rw [e2],by rw [e1];exact Gw.refl _ _,fun k σ hσ _=>e3 k σ fun e=>hσ (by rw [e];exact List.mem_cons_self)⟩,e4⟩
      refine wp_scope_ghost (fun l k a' w'=>∃ x s g',iterC B k (l,x)=some r /\ AR F g' s a' w' /\ Lft (· ∈ b.dsts) (· ∈ (AC.scope n b).ids) g a w g' a' w' /\ collect n s=some x /\ (∀ k,k∈n.kept -> ∀ σ0 ls0,st.L k=some (σ0,ls0) -> ∃ σ ls,s.L k=some (σ,ls) /\ ls.map unown=ls0.map unown))
        (Code.wp_mono (fun e a' w' hp=>?_) (ih _ _ _ g1 a w hg1 hd h1 hv)) ?_
      · obtain ⟨xt,st',g',rfl,hQ,hR,hl⟩:=hp
        cases xt with
        | exit i=>obtain ⟨q,hq,he⟩:=Option.map_eq_some_iff.1 hQ;cases he
        | normal=>obtain ⟨q,hq,he⟩:=Option.map_eq_some_iff.1 hQ;cases he
        | ret=>obtain ⟨q,hq,he⟩:=Option.map_eq_some_iff.1 hQ;cases he
        | goto i=>
          simp only at hQ
          cases hi:hasN b.labs i with
          | false=>
            rw [hi] at hQ
            obtain ⟨q,hq,he⟩:=Option.map_eq_some_iff.1 hQ
            cases he
          | true=>
            rw [hi] at hQ
            simp only at hQ
            split at hQ
            · rename_i hko
              obtain ⟨q,hq,he⟩:=Option.map_eq_some_iff.1 hQ
              injection he with he
              injection he with he1 he2
              subst he1;subst he2
              obtain ⟨r1,hr1⟩:=labs_some hi
              exact .inl ⟨k0,⟨q,st',g',hk0,hR,tol (hl.lft (by intro e;cases e)),hq,kept_same hid hnot (hl.lft (by intro e;cases e)) hK1 hR.rel hko⟩,by rw [hr1];rfl⟩
            · cases hQ
      · rintro l k a' w' rest hf ⟨x,s,g',hit,hs,hl,hc,hks⟩
        cases k with
        | zero=>cases hit
        | succ k=>
          rcases iter_succ hit with hbody | ⟨⟨l2,x2⟩,hbody,hit'⟩ <;> rw [hB] at hbody
          · cases hhd:headSt n st x with
            | none=>rw [hhd] at hbody;cases hbody
            | some hd'=>
              rw [hhd] at hbody
              simp only at hbody
              obtain ⟨g2,h2,hl2,hK2⟩:=mk hs hl hc hks hhd
              refine Code.wp_mono (fun e a2 w2 hp=>?_) (fb l rest _ hd' _ g2 a' w' hf hg6 hg1 hd h2 hbody)
              obtain ⟨xt,st2,g3,rfl,hQ,hR,hl3⟩:=hp
              have hl4:=hl2.transX (hl3.mono (fun _ hi=>hi) (fun _ hi=>List.mem_cons_of_mem _ hi))
              cases xt with
              | exit i=>
                obtain ⟨q,hq,he⟩:=Option.map_eq_some_iff.1 hQ
                injection he with he
                subst he
                exact ⟨.exit i,st2,g3,rfl,hq,hR,hl4⟩
              | normal=>
                obtain ⟨q,hq,he⟩:=Option.map_eq_some_iff.1 hQ
                injection he with he
                subst he
                exact ⟨.normal,st2,g3,rfl,hq,hR,hl4⟩
              | ret=>
                obtain ⟨q,hq,he⟩:=Option.map_eq_some_iff.1 hQ
                injection he with he
                subst he
                exact ⟨.ret,st2,g3,rfl,hq,hR,hl4⟩
              | goto i=>
                simp only at hQ
                cases hi:hasN b.labs i with
                | true=>
                  rw [hi] at hQ
                  simp only at hQ
                  split at hQ
                  · obtain ⟨q,hq,he⟩:=Option.map_eq_some_iff.1 hQ
                    cases he
                  · cases hQ
                | false=>
                  rw [hi] at hQ
                  obtain ⟨q,hq,he⟩:=Option.map_eq_some_iff.1 hQ
                  injection he with he
                  subst he
                  exact .inr ⟨labs_none hi,.goto i,st2,g3,rfl,hq,hR,hl4⟩
          · cases hhd:headSt n st x with
            | none=>rw [hhd] at hbody;cases hbody
            | some hd'=>
              rw [hhd] at hbody
              simp only at hbody
              obtain ⟨g2,h2,hl2,hK2⟩:=mk hs hl hc hks hhd
              refine Code.wp_mono (fun e a2 w2 hp=>?_) (fb l rest _ hd' _ g2 a' w' hf hg6 hg1 hd h2 hbody)
              obtain ⟨xt,st2,g3,rfl,hQ,hR,hl3⟩:=hp
              have hl4:=hl2.transX (hl3.mono (fun _ hi=>hi) (fun _ hi=>List.mem_cons_of_mem _ hi))
              cases xt with
              | exit i=>obtain ⟨q,hq,he⟩:=Option.map_eq_some_iff.1 hQ;cases he
              | normal=>obtain ⟨q,hq,he⟩:=Option.map_eq_some_iff.1 hQ;cases he
              | ret=>obtain ⟨q,hq,he⟩:=Option.map_eq_some_iff.1 hQ;cases he
              | goto i=>
                simp only at hQ
                cases hi:hasN b.labs i with
                | false=>
                  rw [hi] at hQ
                  obtain ⟨q,hq,he⟩:=Option.map_eq_some_iff.1 hQ
                  cases he
                | true=>
                  rw [hi] at hQ
                  simp only at hQ
                  split at hQ
                  · rename_i hko
                    obtain ⟨q,hq,he⟩:=Option.map_eq_some_iff.1 hQ
                    injection he with he
                    injection he with he1 he2
                    subst he1;subst he2
                    obtain ⟨r1,hr1⟩:=labs_some hi
                    exact .inl ⟨k,Nat.lt_succ_self k,⟨q,st2,g3,hit',hR,hl4.lft (by intro e;cases e),hq,kept_same hid hnot (hl3.lft (by intro e;cases e)) hK2 hR.rel hko⟩,by rw [hr1];rfl⟩
                  · cases hQ
  | cond c x y ihx ihy=>
    intro hh
    obtain ⟨ihx,fx⟩:=ihx fun p hp=>hh p (List.mem_append_left _ hp)
    obtain ⟨ihy,fy⟩:=ihy fun p hp=>hh p (List.mem_append_right _ hp)
    refine ⟨?_,frs_none fun _=>rfl⟩
    intro R Q st r g a w hg hd h hv
    simp only [AC.good,Bool.and_eq_true] at hg
    have hdx:∀ d∈x.dsts,d < F.n:=fun d hm=>hd d (List.mem_append_left _ hm)
    have hdy:∀ d∈y.dsts,d < F.n:=fun d hm=>hd d (List.mem_append_right _ hm)
    unfold pv at hv
    split at hv
    · rename_i b hb
      have hc:=evS_rel h.rel c
      rw [hb] at hc
      have hc':a.eval c=.bool b:=rel_bool hc
      have key:∀ q:Bool,b=q->(cond q (pv E x Q st) (pv E y Q st))=some r->(Code.cond c x.erase y.erase).wp E.P (PostC F (· ∈ (AC.cond c x y).dsts) (· ∈ (AC.cond c x y).ids) g a w Q r) a w:=fun q e hv=>by
        subst e
        cases b with
        | true=>exact wp_cond_true hc' (Code.wp_mono (fun e a' w' hp=>hp.mono (fun i hi=>List.mem_append_left _ hi) (fun i hi=>List.mem_append_left _ hi) (Lft.refl _ _) (fun _ _ q=>q)) (ihx Q st r g a w hg.1 hdx h hv))
        | false=>exact wp_cond_false hc' (Code.wp_mono (fun e a' w' hp=>hp.mono (fun i hi=>List.mem_append_right _ hi) (fun i hi=>List.mem_append_right _ hi) (Lft.refl _ _) (fun _ _ q=>q)) (ihy Q st r g a w hg.2 hdy h hv))
      exact key b rfl hv
    · cases hv
  | block id b ih=>
    intro hh
    obtain ⟨ih,fb⟩:=ih hh
    refine ⟨?_,frs_none fun _=>rfl⟩
    intro R Q st r g a w hg hd h hv
    refine wp_block (Code.wp_mono (fun e a' w' hp=>?_) (ih _ st r g a w hg hd h hv))
    obtain ⟨x,st',g',rfl,hQ,hr,hF⟩:=hp
    cases x with
    | normal=>exact ⟨.normal,st',g',rfl,hQ,hr,hF⟩
    | ret=>exact ⟨.ret,st',g',rfl,hQ,hr,hF⟩
    | goto i=>exact ⟨.goto i,st',g',rfl,hQ,hr,hF⟩
    | exit i=>
      have hF':=hF.lft (by intro e;cases e)
      show (if i=id then _ else _)
      cases hb:Nat.beq i id with
      | true=>
        rw [if_pos (Nat.eq_of_beq_eq_true hb)]
        simp only [hb] at hQ
        exact ⟨.normal,st',g',rfl,hQ,hr,hF'.x⟩
      | false=>
        rw [if_neg (fun e=>by rw [e] at hb;simp at hb)]
        simp only [hb] at hQ
        exact ⟨.exit i,st',g',rfl,hQ,hr,hF⟩
  | loop n b ih=>
    intro hh
    obtain ⟨ih,fb⟩:=ih hh
    refine ⟨?_,frs_none fun _=>rfl⟩
    intro R Q st r g a w hg hd h hv
    simp only [AC.good,Bool.and_eq_true] at hg
    obtain ⟨⟨⟨hg1,hg3⟩,hg4⟩,hg5⟩:=hg
    have hM:∀ d,d∈b.dsts->n.has d=true:=fun d hm=>List.all_eq_true.1 hg3 d hm
    simp only [okIds,Bool.and_eq_true,Bool.not_eq_true'] at hg4
    have hid:n.id≠0:=fun e=>by have h4:=hg4.1;rw [e] at h4;cases h4
    have hnot:¬ n.id∈b.ids:=fun hm=>by have h4:=hg4.2;rw [hasN_iff.2 hm] at h4;cases h4
    unfold pv at hv
    split at hv
    case h_2=>cases hv
    rename_i x0 hx0
    obtain ⟨k0,hk0⟩:=iter_of_loop hv
    -- the head, from a state whose data are these
    have mk : ∀ {g' a' w' s x hd'}, AR F g' s a' w' -> Lft (· ∈ b.dsts) (· ∈ (AC.loop n b).ids) g a w g' a' w' -> collect n s = some x -> (∀ k, k ∈ n.kept -> ∀ σ0 ls0, st.L k = some (σ0, ls0) -> ∃ σ ls, s.L k = some (σ, ls) /\ ls.map unown = ls0.map unown) -> headSt n st x = some hd' ->
        ∃ g2,AR F g2 hd' a' w' /\ Lft (· ∈ b.dsts) (· ∈ (AC.loop n b).ids) g a w g2 a' w' /\ ∀ k ls,keptL n st k=some (n.id,ls)->g2.H k n.id=ls:=fun {g' a' w' s x hd'} hs hl hc hks hhd=>by
      obtain ⟨g2,hrel2,e1,e2,e3,e4⟩:=head_rel (M:=(· ∈ b.dsts)) (n:=n) hg5 h.rel hl hM hs.rel hc hks hhd
      exact ⟨g2,⟨hs.size,hs.defers,hrel2⟩,hl.trans ⟨fun _ _=>rfl,fun k _=>by rw [e2],by rw [e1];exact Gw.refl _ _,fun k σ hσ _=>e3 k σ fun e=>hσ (by rw [e];exact List.mem_cons_self)⟩,e4⟩
    refine wp_loop_ghost (fun k a' w'=>∃ x s g',iterC _ k x=some r /\ AR F g' s a' w' /\ Lft (· ∈ b.dsts) (· ∈ (AC.loop n b).ids) g a w g' a' w' /\ collect n s=some x /\ (∀ k,k∈n.kept -> ∀ σ0 ls0,st.L k=some (σ0,ls0) -> ∃ σ ls,s.L k=some (σ,ls) /\ ls.map unown=ls0.map unown)) k0
      ⟨x0,st,g,hk0,h,Lft.refl _ _,hx0,fun k _ σ0 ls0 h0=>⟨σ0,ls0,h0,rfl⟩⟩ ?_
    rintro k a' w' ⟨x,s,g',hit,hs,hl,hc,hks⟩
    cases k with
    | zero=>cases hit
    | succ k=>
      rcases iter_succ hit with hbody | ⟨x2,hbody,hit'⟩
      · cases hhd:headSt n st x with
        | none=>rw [hhd] at hbody;cases hbody
        | some hd'=>
          rw [hhd] at hbody
          simp only at hbody
          obtain ⟨g2,h2,hl2,hK2⟩:=mk hs hl hc hks hhd
          refine Code.wp_mono (fun e a2 w2 hp=>?_) (ih _ hd' _ g2 a' w' hg1 hd h2 hbody)
          obtain ⟨xt,st2,g3,rfl,hQ,hR,hl3⟩:=hp
          have hl4:=hl2.transX (hl3.mono (fun _ hi=>hi) (fun _ hi=>List.mem_cons_of_mem _ hi))
          cases xt with
          | exit i=>
            obtain ⟨q,hq,he⟩:=Option.map_eq_some_iff.1 hQ
            injection he with he
            subst he
            exact ⟨.exit i,st2,g3,rfl,hq,hR,hl4⟩
          | goto i=>
            obtain ⟨q,hq,he⟩:=Option.map_eq_some_iff.1 hQ
            injection he with he
            subst he
            exact ⟨.goto i,st2,g3,rfl,hq,hR,hl4⟩
          | ret=>
            obtain ⟨q,hq,he⟩:=Option.map_eq_some_iff.1 hQ
            injection he with he
            subst he
            exact ⟨.ret,st2,g3,rfl,hq,hR,hl4⟩
          | normal=>
            exfalso
            simp only at hQ
            split at hQ
            · obtain ⟨q,hq,he⟩:=Option.map_eq_some_iff.1 hQ
              cases he
            · cases hQ
      · cases hhd:headSt n st x with
        | none=>rw [hhd] at hbody;cases hbody
        | some hd'=>
          rw [hhd] at hbody
          simp only at hbody
          obtain ⟨g2,h2,hl2,hK2⟩:=mk hs hl hc hks hhd
          refine Code.wp_mono (fun e a2 w2 hp=>?_) (ih _ hd' _ g2 a' w' hg1 hd h2 hbody)
          obtain ⟨xt,st2,g3,rfl,hQ,hR,hl3⟩:=hp
          have hl4:=hl2.transX (hl3.mono (fun _ hi=>hi) (fun _ hi=>List.mem_cons_of_mem _ hi))
          cases xt with
          | exit i=>obtain ⟨q,hq,he⟩:=Option.map_eq_some_iff.1 hQ;cases he
          | goto i=>obtain ⟨q,hq,he⟩:=Option.map_eq_some_iff.1 hQ;cases he
          | ret=>obtain ⟨q,hq,he⟩:=Option.map_eq_some_iff.1 hQ;cases he
          | normal=>
            simp only at hQ
            split at hQ
            · rename_i hko
              obtain ⟨q,hq,he⟩:=Option.map_eq_some_iff.1 hQ
              injection he with he
              subst he
              exact ⟨k,Nat.lt_succ_self k,_,st2,g3,hit',hR,hl4.lft (by intro e;cases e),hq,kept_same hid hnot (hl3.lft (by intro e;cases e)) hK2 hR.rel hko⟩
            · cases hQ

theorem pv_sound (hn6:F.n<=1000000) (hE:E.okF F) (c:AC) (hh:∀ p∈c.hands,HandS E.P F p.1 p.2) {R:Type} (Q:Xt->PSt->Option R) (st:PSt) (r:R) (g:Gh) (a:Act) (w:World) (hg:c.good=true) (hd:∀ d∈c.dsts,d < F.n) (h:AR F g st a w) (hv:pv E c Q st=some r) :
 c.erase.wp E.P (PostC F (· ∈ c.dsts) (· ∈ c.ids) g a w Q r) a w:=(pv_both hn6 hE c hh).1 Q st r g a w hg hd h hv

theorem run_mapM {P:Program} {α β:Type} {f:α->Sem β}:∀ (l:List α) (r:List β),(∀ (i:Nat) (x:α),l[i]? = some x -> ∃ y,r[i]? = some y /\ (f x).run P w=.ok y w)->r.length=l.length->(l.mapM f).run P w=.ok r w
 | [],r,_,hl=>by
  have:r=[]:=List.eq_nil_of_length_eq_zero (by simpa using hl)
  subst this;rfl
 | x::l,[],_,hl=>by simp at hl
 | x::l,y::r,h,hl=>by
  obtain ⟨y',hy,hr⟩:=h 0 x rfl
  obtain rfl:y=y':=by simpa using hy
  rw [List.mapM_cons,Sem.run_bind,hr,Result.andThen_ok,Sem.run_bind,run_mapM l r (fun i z hz=>h (i+1) z hz) (by simpa using hl)]
  rfl
theorem resLs_rel {P:Program} (h:AR F g st a w) {rv:ResultVar} {ag:Bool} {ts:List LT} {ls:List Leaf} (hr:resLs P st rv (ag,ts)=some ls) :
  ls.length=ts.length /\ ∃ v,(match rv with | .tmp t=>(pure (a.tmps.getD t undef):Sem Value) | .cell x t=>(do loadVar t (<- asAddr (a.tmps.getD x undef)))).run P w=.ok v w /\ RelV F g w st.O v ag ls:=by
 cases rv with
 | tmp t=>
  have hr':(match st.φ t with | .w ag' ls=>(match bEq ag ag'&&Nat.beq ls.length ts.length with | true=>some ls | false=>none) | _=>none)=some ls:=hr
  split at hr'
  ·rename_i ag' l hp
   split at hr'
   ·rename_i hb
    simp only [Bool.and_eq_true] at hb
    injection hr' with e
    subst e
    have h1:=h.rel.slots t
    rw [hp] at h1
    rw [bEq_iff.1 hb.1]
    exact ⟨Nat.eq_of_beq_eq_true hb.2,_,rfl,h1⟩
   ·cases hr'
  ·cases hr'
 | cell x t=>
  have hr':(match st.φ x with
   | .loc k off=>match st.L k with
    | some (_,ls)=>match atLs P t ls off,bEq ag (isAg P t)&&(P.underlying t).isSome with | some vs,true=>(match Nat.beq vs.length ts.length with | true=>some vs | false=>none) | _,_=>none
    | none=>none
   | _=>none)=some ls:=hr
  split at hr'
  case h_2=>cases hr'
  rename_i k off hp
  split at hr'
  case h_2=>cases hr'
  rename_i σ l hL
  split at hr'
  case h_2=>cases hr'
  rename_i vs hvs hb
  simp only [Bool.and_eq_true] at hb
  split at hr'
  case h_2=>cases hr'
  rename_i hlen
  injection hr' with e
  subst e
  have h1:=h.rel.slots x
  rw [hp] at h1
  have hx:a.tmps.getD x undef=.pointer (some ⟨(g.ρ k).1,(g.ρ k).2+off,none⟩):=h1.2
  obtain ⟨cs,hr1,hc⟩:=loc_cells h.rel hL h1.1
  obtain ⟨p,q,rfl,hsz,hh⟩:=atLs_some hvs
  obtain ⟨c1,c2,rfl,hr2,hr3⟩:=repLs_split hr1
  have hl:c1.length=off:=(repLs_len hr2).trans hsz
  obtain ⟨v,hrun,hrel⟩:=load_at (P:=P) (ad:=⟨(g.ρ k).1,(g.ρ k).2+off,none⟩) hb.2 (fun j x hj=>by
   rw [add_at,Nat.add_assoc]
   exact hc _ x (by rw [List.getElem?_append_right (by omega),hl,Nat.add_sub_cancel_left];exact hj)) hr3 hh
  refine ⟨Nat.eq_of_beq_eq_true hlen,v,?_,by rw [bEq_iff.1 hb.1];exact hrel⟩
  simp [hx,asAddr,hrun]
def resVal (a:Act):ResultVar->Sem Value
 | .tmp t=>pure (a.tmps.getD t undef)
 | .cell x t=>do loadVar t (<- asAddr (a.tmps.getD x undef))
theorem resAll_rel {P:Program} (h:AR F g st a w):∀ {rvs:List ResultVar} {rs:List (Bool×List LT)} {la:List Leaf},resAll P st rvs rs=some la ->
  la.length=(rs.flatMap (·.2)).length /\ ∃ us:List Value,us.length=rs.length /\ us.length=rvs.length /\ (∀ (i:Nat) (x:ResultVar),rvs[i]? = some x -> ∃ y,us[i]? = some y /\ (resVal a x).run P w=.ok y w) /\
   ∀ (rest:List Leaf) (i:Nat),i < rs.length -> ∃ ag l,resAt rs (la++rest) i=.w ag l /\ RelV F g w st.O (us.getD i undef) ag l
 | [],[],la,hr=>by
  have:la=[]:=(Option.some.inj (show some []=some la from hr)).symm
  subst this
  exact ⟨rfl,[],rfl,rfl,fun i x hx=>by simp at hx,fun rest i hi=>by simp at hi⟩
 | [],_::_,_,hr=>by cases hr
 | _::_,[],_,hr=>by cases hr
 | rv::rvs,(ag,ts)::rs,la,hr=>by
  unfold resAll at hr
  split at hr
  ·rename_i l1 l2 h1 h2
   injection hr with hr
   subst hr
   obtain ⟨q1,v,q2,q3⟩:=resLs_rel h h1
   obtain ⟨i1,us,i2,i3,i4,i5⟩:=resAll_rel h h2
   refine ⟨by simp [q1,i1],v::us,by simp [i2],by simp [i3],fun i x hx=>?_,fun rest i hi=>?_⟩
   ·cases i with
    | zero=>
     simp only [List.getElem?_cons_zero,Option.some.injEq] at hx
     subst hx
     refine ⟨v,rfl,?_⟩
     cases rv <;> exact q2
    | succ i=>exact i4 i x (by simpa using hx)
   ·cases i with
    | zero=>
     refine ⟨ag,l1,?_,q3⟩
     show PV.w ag ((l1++l2++rest).take ts.length)=_
     rw [<-q1,List.append_assoc,List.take_left]
    | succ i=>
     obtain ⟨ag',l,e1,e2⟩:=i5 rest i (by simpa using hi)
     refine ⟨ag',l,?_,e2⟩
     show resAt rs ((l1++l2++rest).drop ts.length) i=_
     rw [<-q1,List.append_assoc,List.drop_left];exact e1
  ·cases hr
theorem inoutLs_at:∀ {ps:List Par} {j:Nat} {lb:List Leaf},inoutLs st ps j=some lb -> ∀ (rest:List Leaf) (k:Nat) (l:List Leaf),inoutAt ps (lb++rest) k=some l -> ∃ σ,st.L (j+k)=some (σ,l)
 | [],j,lb,h,rest,k,l,hk=>by cases hk
 | .v ag ts::r,j,lb,h,rest,k,l,hk=>by
  cases k with
  | zero=>cases hk
  | succ k=>
   obtain ⟨σ,hs⟩:=inoutLs_at (ps:=r) (j:=j+1) h rest k l hk
   exact ⟨σ,by rw [<-hs];congr 1;omega⟩
 | .m ts::r,j,lb,h,rest,k,l,hk=>by
  unfold inoutLs at h
  split at h
  ·rename_i σ ls q hL hr
   split at h
   ·rename_i hb
    have hl:ls.length=ts.length:=Nat.eq_of_beq_eq_true hb
    injection h with h
    subst h
    cases k with
    | zero=>
     have hk':some ((ls++q++rest).take ts.length)=some l:=hk
     rw [<-hl,List.append_assoc,List.take_left] at hk'
     injection hk' with e
     subst e
     exact ⟨σ,hL⟩
    | succ k=>
     have hk':inoutAt r ((ls++q++rest).drop ts.length) k=some l:=hk
     rw [<-hl,List.append_assoc,List.drop_left] at hk'
     obtain ⟨σ,hs⟩:=inoutLs_at (ps:=r) (j:=j+1) hr rest k l hk'
     exact ⟨σ,by rw [<-hs];congr 1;omega⟩
   ·cases h
  ·cases h
theorem resAt_same {σ:Tok->Tok->Prop}:∀ {rs:List (Bool×List LT)} {q q':List Leaf} {i:Nat} {ag:Bool} {l:List Leaf},SameLs σ q q'->resAt rs q i=.w ag l -> ∃ l',resAt rs q' i=.w ag l' /\ SameLs σ l l'
 | [],_,_,_,_,_,_,h=>by cases h
 | (ag0,ts)::r,q,q',0,ag,l,hs,h=>by
  have h':PV.w ag0 (q.take ts.length)=.w ag l:=h
  injection h' with e1 e2
  subst e1;subst e2
  exact ⟨_,rfl,hs.take _⟩
 | (ag0,ts)::r,q,q',i+1,ag,l,hs,h=>resAt_same (rs:=r) (hs.drop _) h
theorem resAt_out:∀ {rs:List (Bool×List LT)} {q:List Leaf} {i:Nat},rs.length<=i->resAt rs q i=.dead
 | [],_,_,_=>rfl
 | _::_,_,0,h=>by simp at h
 | (_,ts)::r,q,i+1,h=>resAt_out (rs:=r) (by simpa using h)
def exitG (g:Gh) (ks:List Tok):Gh:=⟨g.C,fun t=>match t with | .hd 0 j=>g.blk (ks.getD j .zero) | _=>none,g.ρ,fun _ _=>[],g.ow,fun _=>0⟩
theorem exit_rel {P:Program} {s:Sig} {rvs:List ResultVar} {y:s.out.D} (hpls:okPls s.pls=true) (hmp:∀ k,isM s.ps k=true->isPool k=false) (h:AR F g st a w) (hr:retP P rvs s st=some y) :
  ∃ (us:List Value) (g':Gh) (stX:PSt),us.length=s.rs.length /\ us.length=rvs.length /\ (∀ (i:Nat) (x:ResultVar),rvs[i]? = some x -> ∃ y,us[i]? = some y /\ (resVal a x).run P w=.ok y w) /\ exitSt s y=some stX /\ MRel F g' stX (fun i=>us.getD i undef) w /\ g'.ρ=g.ρ:=by
 unfold retP at hr
 split at hr
 case h_2=>cases hr
 rename_i la lb hla hlb
 split at hr
 case h_2=>cases hr
 rename_i ks xs htake0
 obtain ⟨htake,hno⟩:=takeAllN_some htake0
 obtain ⟨ps,htp,hdt,hr⟩:∃ ps,takePools st.L (wPls s.pls)=some ps /\ distinctT ks=true /\ packD s.outTs (xs++ps)=some y:=by
  cases h1:takePools st.L (wPls s.pls) with
  | none=>rw [h1] at hr;cases hr
  | some ps=>
   cases h2:distinctT ks with
   | false=>rw [h1,h2] at hr;cases hr
   | true=>rw [h1,h2] at hr;exact ⟨ps,rfl,rfl,hr⟩
 have hun:unpackD s.outTs y=xs++ps:=unpack_pack _ _ _ hr
 obtain ⟨plX,hplX⟩:=mkPools_some htp
 obtain ⟨q1,us,q2,q3,q4,q5⟩:=resAll_rel h hla
 obtain ⟨osX,hmk⟩:=mk_some (lab:=Tok.hd 0) (j:=0) htake
 obtain ⟨hsame,_⟩:=take_mk (fun l _=>.inr hno) htake hmk
 have hex:exitSt s y=some ⟨resAt s.rs osX,fun k=>match inoutAt s.ps (osX.drop s.nres) k with | some l=>some (0,l) | none=>findL plX k,fun t=>hasT (.zero::labs (Tok.hd 0) s.outs 0) t,[],[],[]⟩:=by
  unfold exitSt
  rw [hun,List.take_left' (takeAll_len htake),List.drop_left' (takeAll_len htake),hmk,hplX]
  rfl
 have plH:∀ k y,findL plX k=some y->isPool k=true /\ ∃ e v l,poolL st.L k=some (true,v,⟨e,l⟩) /\ y=(0,[poolLeaf true 0 e l]):=fun k y hy=>by
  obtain ⟨e,wr,b,v,l,r1,r2,r3,r4⟩:=take_mkPools htp hplX hy
  obtain ⟨rfl,r5⟩:=wPls_mem.1 r1
  rw [r3 rfl] at r2
  exact ⟨okPls_pool hpls r5,e,v,l,r2,r4⟩
 have T:Turn F g st.O F (exitG g ks) (fun t=>hasT (.zero::labs (Tok.hd 0) s.outs 0) t) (fun k k'=>TokAt s.outs ks (Tok.hd 0) 0 k k' /\ st.O k=true):=by
  refine ⟨rfl,fun k k' hσ _=>⟨hσ.2,?_⟩,fun k k' b o _ _ _ _ hw=>hw⟩
  obtain ⟨⟨i,E,e,h1,h2,rfl⟩,_⟩:=hσ
  show g.blk (ks.getD (0+i) .zero)=_
  rw [List.getD_eq_getElem?_getD,Nat.zero_add,h2];rfl
 have liveH:∀ k,hasT (.zero::labs (Tok.hd 0) s.outs 0) k=true->k=.zero \/ ∃ i k0,k=.hd 0 i /\ ks[i]? = some k0 /\ st.O k0=true /\ (exitG g ks).blk k=g.blk k0:=fun k hk=>by
  rcases List.mem_cons.1 (hasT_iff.1 hk) with rfl | hm
  ·exact .inl rfl
  ·obtain ⟨i,E,e,h1,rfl⟩:=labs_mem.1 hm
   obtain ⟨k0,r1,r2⟩:=take_ks htake i E e h1
   refine .inr ⟨i,k0,by rw [Nat.zero_add],r1,r2,?_⟩
   show g.blk (ks.getD (0+i) .zero)=_
   rw [List.getD_eq_getElem?_getD,Nat.zero_add,r1];rfl
 have locH:∀ k y,(match inoutAt s.ps (osX.drop s.nres) k with | some l=>some ((0:Nat),l) | none=>findL plX k)=some y->isPool k=false->y.1=0 /\ ∃ σ l,st.L k=some (σ,l) /\ SameLs (fun k k'=>TokAt s.outs ks (Tok.hd 0) 0 k k' /\ st.O k=true) l y.2:=fun k y hy np=>by
  split at hy
  ·rename_i l' hl'
   injection hy with hy
   subst hy
   obtain ⟨l,h1,h2⟩:=inoutAt_same (hsame.drop s.nres) hl'
   have hnr:s.nres=la.length:=by unfold Sig.nres;rw [q1]
   rw [hnr,List.drop_left] at h1
   obtain ⟨σ,h3⟩:=inoutLs_at hlb [] k l (by rw [List.append_nil];exact h1)
   rw [Nat.zero_add] at h3
   exact ⟨rfl,σ,l,h3,h2⟩
  ·rw [(plH k y hy).1] at np;cases np
 refine ⟨us,exitG g ks,_,q2,q3,q4,hex,⟨h.rel.fr,fun i=>?_,fun k σ l hL np=>?_,fun k σ l hL np=>?_,fun k σ l hL hσ=>?_,fun t b hb=>by (cases hb),fun i t want ag l hs=>?_,fun d hd=>by (cases hd),fun i k hk=>?_,rfl,fun k k' b hk1 hk2 hb hb'=>?_,fun k b j y hk1 hb hL np=>?_,fun k b hk1 hb=>?_,fun k b hk1 hb=>?_,fun j j' y y' hj hj' np np' he=>?_,
  ⟨fun t b ht hb=>?_,fun k y hL np=>?_,h.rel.ows.lim,h.rel.ows.fr,h.rel.ows.mono,h.rel.ows.i,h.rel.ows.wr⟩⟩,rfl⟩
 ·by_cases hi:i < s.rs.length
  ·obtain ⟨ag,l,e1,e2⟩:=q5 lb i hi
   obtain ⟨l',e3,e4⟩:=resAt_same hsame e1
   show RelP F _ w _ _ _ (resAt s.rs osX i)
   rw [e3]
   exact e2.turn T e4
  ·show RelP F _ w _ _ _ (resAt s.rs osX i)
   rw [resAt_out (by omega)];trivial
 ·obtain ⟨e,σ1,l1,h1,h2⟩:=locH k (σ,l) hL np
  exact (h.rel.locals k σ1 l1 h1 np).turn T (fun _ _ hw=>hw) h2
 ·have hL':(match inoutAt s.ps (osX.drop s.nres) k with | some l=>some ((0:Nat),l) | none=>findL plX k)=some (σ,l):=hL
  split at hL'
  ·rename_i l' hl'
   rw [hmp k (inoutAt_isM hl')] at np;cases np
  ·obtain ⟨_,e,v,l0,r1,r2⟩:=plH k _ hL'
   cases r2
   exact pool_lend h.rel r1 np rfl rfl fun _=>⟨rfl,((pool_at h.rel r1 np).1 rfl).2⟩
 ·have hL':(match inoutAt s.ps (osX.drop s.nres) k with | some l=>some ((0:Nat),l) | none=>findL plX k)=some (σ,l):=hL
  split at hL'
  ·cases hL';exact (hσ rfl).elim
  ·obtain ⟨_,e,v,l0,r1,r2⟩:=plH k _ hL'
   cases r2;exact (hσ rfl).elim
 ·by_cases hi:i < s.rs.length
  ·obtain ⟨ag',l',e1,e2⟩:=q5 lb i hi
   obtain ⟨l2,e3,e4⟩:=resAt_same hsame e1
   have hs':resAt s.rs osX i=.spec t want ag l:=hs
   rw [e3] at hs';cases hs'
  ·have hs':resAt s.rs osX i=.spec t want ag l:=hs
   rw [resAt_out (by omega)] at hs';cases hs'
 ·by_cases hi:i < s.rs.length
  ·obtain ⟨ag',l',e1,e2⟩:=q5 lb i hi
   obtain ⟨l2,e3,e4⟩:=resAt_same hsame e1
   have hk':k∈keyP (resAt s.rs osX i):=hk
   rw [e3] at hk';cases hk'
  ·have hk':k∈keyP (resAt s.rs osX i):=hk
   rw [resAt_out (by omega)] at hk';cases hk'
 ·rcases liveH k hk1 with rfl | ⟨i,k0,rfl,r1,r2,r3⟩
  ·cases hb
  rcases liveH k' hk2 with rfl | ⟨i',k0',rfl,r1',r2',r3'⟩
  ·cases hb'
  rw [r3] at hb;rw [r3'] at hb'
  have e1:=h.rel.blkI k0 k0' b r2 r2' hb hb'
  subst e1
  have hz:k0≠.zero:=fun e=>by rw [e,h.rel.blk0] at hb;cases hb
  rw [distinct_at hdt r1 r1' hz]
 ·rcases liveH k hk1 with rfl | ⟨i,k0,rfl,r1,r2,r3⟩
  ·cases hb
  rw [r3] at hb
  obtain ⟨_,σ1,l1,h1,_⟩:=locH j y hL np
  exact h.rel.blkL k0 b j _ r2 hb h1 np
 ·rcases liveH k hk1 with rfl | ⟨i,k0,rfl,r1,r2,r3⟩
  ·cases hb
  rw [r3] at hb
  exact h.rel.blkS k0 b r2 hb
 ·rcases liveH k hk1 with rfl | ⟨i,k0,rfl,r1,r2,r3⟩
  ·cases hb
  rw [r3] at hb
  exact h.rel.blkW k0 b r2 hb
 ·obtain ⟨_,σ1,l1,h1,_⟩:=locH j y hj np
  obtain ⟨_,σ2,l2,h2,_⟩:=locH j' y' hj' np'
  exact h.rel.ρI j j' _ _ h1 h2 np np' he
 ·rcases liveH t ht with rfl | ⟨i,k0,rfl,r1,r2,r3⟩
  ·cases hb
  rw [r3] at hb
  exact h.rel.ows.tok k0 b r2 hb
 ·obtain ⟨_,σ1,l1,h1,_⟩:=locH k y hL np
  exact h.rel.ows.loc k _ h1 np
theorem exit_relF {P:Program} {s:Sig} {rvs:List ResultVar} {y:s.out.D} (hpls:okPls s.pls=true) (hmp:∀ k,isM s.ps k=true->isPool k=false) (h:AR F g st a w) (hr:retF P rvs s st=some y) :
  ∃ (us:List Value) (g':Gh) (stX:PSt),us.length=s.rs.length /\ us.length=rvs.length /\ (∀ (i:Nat) (x:ResultVar),rvs[i]? = some x -> ∃ y,us[i]? = some y /\ (resVal a x).run P w=.ok y w) /\ exitSt s y=some stX /\ MRel F g' stX (fun i=>us.getD i undef) w /\ g'.ρ=g.ρ:=by
 unfold retF at hr
 split at hr
 ·exact exit_rel hpls hmp h hr
 ·rename_i k K hkeys
  have hKnp:∀ j,hasN (k::K) j=true->isPool j=false:=fun j hj=>by
   rw [<-hkeys] at hj
   obtain ⟨z,_,hz2⟩:=List.mem_flatMap.1 (hasN_iff.1 hj)
   split at hz2
   ·rename_i t _
    have hz3:=h.rel.slots t
    split at hz2
    ·rename_i hrow
     rw [hrow] at hz3
     rw [List.mem_singleton.1 hz2]
     exact hz3.1
    ·cases hz2
   ·cases hz2
  obtain ⟨hall,hr⟩:=chk_some hr
  have hA:AR F (lendG g st (k::K)) (lendSt (k::K) (resTmps rvs) st) a w:=⟨h.size,h.defers,lend_rel (k::K) _ hKnp h.rel fun i hi=>List.all_eq_true.1 hall i (hasN_iff.1 hi)⟩
  have h2:=exit_rel hpls hmp hA hr
  exact h2
theorem annot_erase {A:List (Nat×Ann)}:∀ (c:Code) (k:Nat) (ac:AC) (k':Nat),annot A c k=some (ac,k')->ac.erase=c:=by
 intro c
 induction c with
 | skip=>intro k ac k' h;simp only [annot,Option.some.injEq,Prod.mk.injEq] at h;rw [<-h.1];rfl
 | region id ops d=>intro k ac k' h;simp only [annot,Option.some.injEq,Prod.mk.injEq] at h;rw [<-h.1];rfl
 | exit id=>intro k ac k' h;simp only [annot,Option.some.injEq,Prod.mk.injEq] at h;rw [<-h.1];rfl
 | ret=>intro k ac k' h;simp only [annot,Option.some.injEq,Prod.mk.injEq] at h;rw [<-h.1];rfl
 | label l=>intro k ac k' h;simp only [annot,Option.some.injEq,Prod.mk.injEq] at h;rw [<-h.1];rfl
 | goto l=>intro k ac k' h;simp only [annot,Option.some.injEq,Prod.mk.injEq] at h;rw [<-h.1];rfl
 | scope b ih=>
  intro k ac k' h
  unfold annot at h
  split at h
  ·rename_i m b' k1 h0 h1
   simp only [Option.some.injEq,Prod.mk.injEq] at h
   rw [<-h.1]
   simp only [AC.erase,ih _ _ _ h1]
  ·cases h
 | seq x y ihx ihy=>
  intro k ac k' h
  unfold annot at h
  split at h
  ·rename_i a' k1 h1
   split at h
   ·rename_i b' k2 h2
    split at h <;>
    ·simp only [Option.some.injEq,Prod.mk.injEq] at h
     rw [<-h.1]
     simp only [AC.erase,ihx _ _ _ h1,ihy _ _ _ h2]
   ·cases h
  ·cases h
 | cond c x y ihx ihy=>
  intro k ac k' h
  unfold annot at h
  split at h
  ·rename_i a' k1 h1
   split at h
   ·rename_i b' k2 h2
    simp only [Option.some.injEq,Prod.mk.injEq] at h
    rw [<-h.1]
    simp only [AC.erase,ihx _ _ _ h1,ihy _ _ _ h2]
   ·cases h
  ·cases h
 | block id b ih=>
  intro k ac k' h
  unfold annot at h
  split at h
  ·rename_i b' k1 h1
   simp only [Option.some.injEq,Prod.mk.injEq] at h
   rw [<-h.1]
   simp only [AC.erase,ih _ _ _ h1]
  ·cases h
 | loop b ih=>
  intro k ac k' h
  unfold annot at h
  split at h
  ·rename_i m b' k1 h0 h1
   simp only [Option.some.injEq,Prod.mk.injEq] at h
   rw [<-h.1]
   simp only [AC.erase,ih _ _ _ h1]
  ·cases h
 | _=>intro k ac k' h;cases h
theorem annot_hands {A:List (Nat×Ann)}:∀ (c:Code) (k:Nat) (ac:AC) (k':Nat),annot A c k=some (ac,k')->ac.hands=[]:=by
 intro c
 induction c with
 | skip=>intro k ac k' h;simp only [annot,Option.some.injEq,Prod.mk.injEq] at h;rw [<-h.1];rfl
 | region id ops d=>intro k ac k' h;simp only [annot,Option.some.injEq,Prod.mk.injEq] at h;rw [<-h.1];rfl
 | exit id=>intro k ac k' h;simp only [annot,Option.some.injEq,Prod.mk.injEq] at h;rw [<-h.1];rfl
 | ret=>intro k ac k' h;simp only [annot,Option.some.injEq,Prod.mk.injEq] at h;rw [<-h.1];rfl
 | label l=>intro k ac k' h;simp only [annot,Option.some.injEq,Prod.mk.injEq] at h;rw [<-h.1];rfl
 | goto l=>intro k ac k' h;simp only [annot,Option.some.injEq,Prod.mk.injEq] at h;rw [<-h.1];rfl
 | scope b ih=>
  intro k ac k' h
  unfold annot at h
  split at h
  ·rename_i m b' k1 h0 h1
   simp only [Option.some.injEq,Prod.mk.injEq] at h
   rw [<-h.1]
   simp only [AC.hands,ih _ _ _ h1]
  ·cases h
 | seq x y ihx ihy=>
  intro k ac k' h
  unfold annot at h
  split at h
  ·rename_i a' k1 h1
   split at h
   ·rename_i b' k2 h2
    split at h <;>
    ·simp only [Option.some.injEq,Prod.mk.injEq] at h
     rw [<-h.1]
     simp only [AC.hands,ihx _ _ _ h1,ihy _ _ _ h2,List.append_nil]
   ·cases h
  ·cases h
 | cond c x y ihx ihy=>
  intro k ac k' h
  unfold annot at h
  split at h
  ·rename_i a' k1 h1
   split at h
   ·rename_i b' k2 h2
    simp only [Option.some.injEq,Prod.mk.injEq] at h
    rw [<-h.1]
    simp only [AC.hands,ihx _ _ _ h1,ihy _ _ _ h2,List.append_nil]
   ·cases h
  ·cases h
 | block id b ih=>
  intro k ac k' h
  unfold annot at h
  split at h
  ·rename_i b' k1 h1
   simp only [Option.some.injEq,Prod.mk.injEq] at h
   rw [<-h.1]
   simp only [AC.hands,ih _ _ _ h1]
  ·cases h
 | loop b ih=>
  intro k ac k' h
  unfold annot at h
  split at h
  ·rename_i m b' k1 h0 h1
   simp only [Option.some.injEq,Prod.mk.injEq] at h
   rw [<-h.1]
   simp only [AC.hands,ih _ _ _ h1]
  ·cases h
 | _=>intro k ac k' h;cases h
theorem results_run {P:Program} {fn:Func} {us:List Value} (hl:us.length=fn.results.toList.length) (h:∀ (i:Nat) (x:ResultVar),fn.results.toList[i]? = some x -> ∃ y,us[i]? = some y /\ (resVal a x).run P w=.ok y w):(results fn a.tmps).run P w=.ok (retV us) w:=by
 have key:(results fn a.tmps).run P w=.ok (if h:(⟨us⟩:Array Value).size=1 then (⟨us⟩:Array Value)[0] else .tuple ⟨us⟩) w:=by
  unfold results
  rw [Array.mapM_eq_mapM_toList,Sem.run_bind,Sem.run_map,run_mapM fn.results.toList us (fun i x hx=>?_) hl]
  ·rfl
  obtain ⟨y,hy,hr⟩:=h i x hx
  exact ⟨y,hy,by cases x <;> exact hr⟩
 rw [key]
 match us with
 | []=>rfl
 | [_]=>rfl
 | _::_::_=>rfl
theorem fn_sound {T:Tab} (hE:E.ok T) {A:List (Nat×Ann)} {f:FuncId} {fn:Func} {s:Sig} (hf:E.P.funcs[f]? = some fn):SoundFn E.P T f s ⟨pvFn E A fn s⟩:=by
  intro F g st xs y tmf w args hT hent happ hrel hw hPT hn hsz htm
  have hv:=appF_curry _ _ _ _ happ
  unfold pvFnL at hv
  rw [hent] at hv
  split at hv
  case h_2=>cases hv
  rename_i c st0 hb he
  injection he with he
  subst he
  split at hv
  case h_2=>cases hv
  rename_i ac k hac
  split at hv
  case h_2=>cases hv
  rename_i hgd
  simp only [Bool.and_eq_true] at hgd
  obtain ⟨⟨⟨⟨⟨⟨hg1,hg2⟩,hg3⟩,hg6⟩,hg7⟩,hg4⟩,hg5⟩:=hgd
  have hFn:=hn fn hf
  have hn6:F.n<=1000000:=by rw [hFn];exact Nat.le_of_ble_eq_true hg7
  have hmp:∀ k,isM s.ps k=true->isPool k=false:=fun k hk=>by
    obtain ⟨ts,hts⟩:=isM_iff.1 hk
    have:=(List.getElem?_eq_some_iff.1 hts).1
    have h3:=Nat.le_of_ble_eq_true hg3
    show Nat.ble 1000000 k=false
    rw [<-Bool.not_eq_true,Nat.ble_eq]
    omega
  have hle:args.size<=fn.ntmps:=by rw [hsz];rw [Nat.ble_eq] at hg3;exact hg3
  have hdst:∀ d∈ac.dsts,d < F.n:=fun d hd=>by
    have:=List.all_eq_true.1 hg2 d hd
    rw [Nat.blt_eq] at this
    omega
  have htm':tm { tmps:=args++Array.replicate (fn.ntmps - args.size) undef,defers:=[] }=tmf:=by
    funext i
    rw [htm i]
    unfold tm
    simp only [Array.getD_eq_getD_getElem?,Array.getElem?_append]
    by_cases hlt:i < args.size
    · simp [hlt]
    · rw [if_neg hlt,Array.getElem?_eq_none (show args.size<=i by omega)]
      simp only [Array.getElem?_replicate,Option.getD_none]
      split <;> rfl
  have hAR:AR F g st { tmps:=args++Array.replicate (fn.ntmps - args.size) undef,defers:=[] } w:=⟨by simp;omega,rfl,by rw [htm'];exact hrel⟩
  have he:=annot_erase c 0 ac k hac
  refine calls_of_wp hf hb ?_
  have hs:=pv_sound hn6 ⟨T,hE,hT⟩ ac (by rw [annot_hands c 0 ac k hac];intro p hp;cases hp) _ st y g _ w hg1 hdst hAR hv
  rw [he] at hs
  have fin : ∀ {x a' w' g' st'}, retF E.P fn.results.toList s st' = some y -> AR F g' st' a' w' -> LftX x (· ∈ ac.dsts) (· ∈ ac.ids) g { tmps := args ++ Array.replicate (fn.ntmps - args.size) undef, defers := [] } w g' a' w' ->
      a'.defers=[] /\ ∃ v,(results fn a'.tmps).run E.P w'=.ok v w' /\ ∃ us g' st',Ending.returned v=.returned (retV us) /\ us.length=s.rs.length /\ exitSt s y=some st' /\ MRel F g' st' (fun i=>us.getD i undef) w' /\ ∀ k,isM s.ps k=true->g'.ρ k=g.ρ k:=fun {x a' w' g' st'} hr hA hl=>by
    obtain ⟨us,g2,stX,r1,r2,r3,r4,r5,r6⟩:=exit_relF hg6 hmp hA hr
    refine ⟨hA.defers,retV us,results_run r2 r3,us,g2,stX,rfl,r1,r4,r5,fun k hk=>?_⟩
    rw [r6]
    refine hl.ρ k fun hm=>?_
    have hlt:k < s.ps.length:=by
      obtain ⟨ts,hts⟩:=isM_iff.1 hk
      exact (List.getElem?_eq_some_iff.1 hts).1
    have:=List.all_eq_true.1 hg5 k (List.mem_range.2 hlt)
    rw [hk,hasN_iff.2 hm] at this
    cases this
  refine Code.wp_mono (fun e a' w' hp=>?_) hs
  obtain ⟨x,st',g',rfl,hQ,hr,hl⟩:=hp
  cases x with
  | exit i=>cases hQ
  | normal=>exact fin hQ hr hl
  | ret=>exact fin hQ hr hl
  | goto i=>cases hQ
end
end Pv
end Go.Proofs.YtifbhefbhlbofaaDoor
namespace Go.Proofs.YtifbhefbhlbofaaDoor
open Go.ChangeShapes Go.WideShapes Go.ChangeAt Go.RowKit Go.Deep
open Go.ChangeMaps (open_string shut_string)
namespace Pv
set_option linter.unusedVariables false
def layS (f:TypeId->Option Ty):List Field->Nat->Option (List Ty)
 | [],_=>some []
 | x::r,o=>match Nat.beq x.offset o,f x.type with
  | true,some t=>match layS f r (o+t.size) with | some l=>some (t::l) | none=>none
  | _,_=>none
def lay1 (P:Program) (f:TypeId->Option Ty) (t:TypeId):Option Ty:=match P.underlying t with
 | some .bool=>some .bool
 | some (.int k)=>some (.int k)
 | some .string=>some .str
 | some (.slice e)=>(f e).map .sl
 | some (.array m e)=>(f e).map (.arr m)
 | some (.struct fs)=>(layS f fs.toList 0).map prs
 | _=>none
def lay (P:Program):Nat->TypeId->Option Ty
 | 0,_=>none
 | n+1,t=>match lay1 P (lay P n) t with
  | some τ=>match Nat.beq (P.cellsOf t) τ.size with | true=>some τ | false=>none
  | none=>none
theorem choose_l {α:Type} {p:Nat->α->Prop}:∀ (n:Nat),(∀ i,i < n -> ∃ y,p i y) -> ∃ l:List α,l.length=n /\ ∀ i y,l[i]? = some y->p i y
 | 0,_=>⟨[],rfl,fun i y h=>by simp at h⟩
 | n+1,h=>by
  obtain ⟨l,h1,h2⟩:=choose_l n fun i hi=>h i (by omega)
  obtain ⟨y,hy⟩:=h n (by omega)
  refine ⟨l++[y],by simp [h1],fun i z hz=>?_⟩
  rcases Nat.lt_or_ge i l.length with hlt | hge
  ·rw [List.getElem?_append_left hlt] at hz;exact h2 i z hz
  ·rw [List.getElem?_append_right hge] at hz
   cases hi:i - l.length with
   | zero=>
    rw [hi] at hz
    simp at hz
    subst hz
    rw [show i=n by omega];exact hy
   | succ k=>rw [hi] at hz;simp at hz
section
variable {H : Type} {enc : TypeId × Value -> H} {P : Program} {w : World} {C : Com} {spare : Nat -> Bool} {held : Bool}
def Opens (enc:TypeId×Value->H) (P:Program) (w:World) (C:Com) (spare:Nat->Bool) (held:Bool) (t:TypeId) (τ:Ty):Prop:=
 P.cellsOf t=τ.size /\ ∀ fuel cs x,DataW.trod enc P w 0 spare held fuel t cs=some x -> ∃ y:τ.D,RepD w C τ y cs
theorem opens_fields {f:TypeId->Option Ty} (hf:∀ t τ,f t=some τ->Opens enc P w C spare held t τ):∀ (fs:List Field) (o:Nat) (τs:List Ty) (cs:List Value),layS f fs o=some τs ->
  (∀ x∈fs,∃ n z,DataW.trod enc P w 0 spare held n x.type ((cs.drop x.offset).take (P.cellsOf x.type))=some z) -> ∃ y:(prs τs).D,RepD w C (prs τs) y ((cs.drop o).take (prs τs).size)
 | [],o,τs,cs,h,_=>by
  injection h with h
  subst h
  exact ⟨(),by rw [show (prs []).size=0 from rfl,List.take_zero];rfl⟩
 | x::r,o,τs,cs,h,hx=>by
  unfold layS at h
  split at h
  case h_2=>cases h
  rename_i t ho ht
  split at h
  case h_2=>cases h
  rename_i l hl
  injection h with h
  subst h
  have ho:=Nat.eq_of_beq_eq_true ho
  obtain ⟨y2,h2⟩:=opens_fields hf r (o+t.size) l cs hl fun z hz=>hx z (by simp [hz])
  obtain ⟨hc,hop⟩:=hf _ _ ht
  obtain ⟨n,z,hz⟩:=hx x (by simp)
  obtain ⟨y1,h1⟩:=hop _ _ _ hz
  rw [ho,hc] at h1
  cases l with
  | nil=>exact ⟨y1,h1⟩
  | cons u us=>
   refine ⟨(y1,y2),_,_,?_,h1,h2⟩
   rw [show (prs (t::u::us)).size=t.size+(prs (u::us)).size from rfl,List.take_add,List.drop_drop]
theorem lay_open (hC:∀ a u,w.cell? a=some u->C a.block a.off):∀ (n:Nat) (t:TypeId) (τ:Ty),lay P n t=some τ->Opens enc P w C spare held t τ
 | 0,_,_,h=>by cases h
 | n+1,t,τ,h=>by
  unfold lay at h
  split at h
  case h_2=>cases h
  rename_i τ' h1
  split at h
  case h_2=>cases h
  rename_i hb
  injection h with h
  subst h
  have hsz:=Nat.eq_of_beq_eq_true hb
  refine ⟨hsz,fun fuel cs x hx=>?_⟩
  unfold lay1 at h1
  split at h1
  ·rename_i ht
   injection h1 with h1
   subst h1
   obtain ⟨b,rfl,_⟩:=DataW.trod_bool ht hx
   exact ⟨b,rfl⟩
  ·rename_i k ht
   injection h1 with h1
   subst h1
   obtain ⟨q,rfl,_,hq⟩:=DataW.trod_int ht hx
   exact ⟨q,rfl,hq⟩
  ·rename_i ht
   injection h1 with h1
   subst h1
   obtain ⟨s,rfl,_,hs⟩:=DataW.trod_string ht hx
   exact ⟨bytesL s,s,rfl,rfl,hs⟩
  ·rename_i e ht
   obtain ⟨τe,he,rfl⟩:=Option.map_eq_some_iff.1 h1
   obtain ⟨hce,hop⟩:=lay_open hC n e τe he
   rcases open_slice ht hx with ⟨rfl,_⟩ | ⟨a,len,cap,m,n',D,Pl,rfl,_,hl,hm,hmm,_,hall⟩
   ·exact ⟨([]:List τe.D),none,0,0,rfl,rfl,Nat.le_refl _,by unfold maxLen;omega,fun i x hi=>by simp [gt] at hi⟩
   ·have hlm:len<=m:=by rw [hmm];split <;> omega
    obtain ⟨l,hl1,hl2⟩:=choose_l (p:=fun i (y:τe.D)=>∃ us,us.length=τe.size /\ (∀ j u,us[j]? = some u->w.cell? (a.add (i*τe.size+j))=some u /\ C a.block (a.off+(i*τe.size+j))) /\ RepD w C τe y us) len fun i hi=>by
     obtain ⟨cs',g1,g2⟩:=hall i (by omega)
     obtain ⟨y,hy⟩:=hop _ _ _ g2
     refine ⟨y,cs',hy.len,fun j u hj=>?_,hy⟩
     have hj':j < P.cellsOf e:=by
      have:=(List.getElem?_eq_some_iff.1 hj).1
      rw [hy.len] at this
      omega
     have hcell:=((World.cells?_some g1).2.2 j hj').trans hj
     rw [add_add,hce] at hcell
     refine ⟨hcell,?_⟩
     have:=hC _ _ hcell
     rwa [add_block,add_off] at this
    refine ⟨l,some a,len,cap,rfl,hl1,hl,hm,fun i y hi=>?_⟩
    obtain ⟨us,g1,g2,g3⟩:=hl2 i y hi
    exact ⟨a,us,rfl,g1,g2,g3⟩
  ·rename_i m e ht
   obtain ⟨τe,he,rfl⟩:=Option.map_eq_some_iff.1 h1
   obtain ⟨hce,hop⟩:=lay_open hC n e τe he
   obtain ⟨xs,m',_,_,hcs,hxl,hall⟩:=DataW.trod_array ht hx
   obtain ⟨l,hl1,hl2⟩:=choose_l (p:=fun i (y:τe.D)=>RepD w C τe y ((cs.drop (i*τe.size)).take τe.size)) m fun i hi=>by
    have:=hall i hi
    rw [List.getElem?_eq_getElem (by omega),hce] at this
    exact hop _ _ _ this
   exact ⟨l,hl1,by rw [hcs,hsz];rfl,fun i y hi=>hl2 i y hi⟩
  ·rename_i fs ht
   obtain ⟨τs,hs,rfl⟩:=Option.map_eq_some_iff.1 h1
   obtain ⟨xs,m',_,_,hcs,hxl,hall⟩:=DataW.trod_struct ht hx
   obtain ⟨y,hy⟩:=opens_fields (fun t τ h=>lay_open hC n t τ h) fs.toList 0 τs cs hs fun f hf=>by
    obtain ⟨i,hi,rfl⟩:=List.mem_iff_getElem.1 hf
    have hi':i < fs.size:=by simpa using hi
    have:=hall i fs[i] (by simp [hi'])
    rw [List.getElem?_eq_getElem (by omega)] at this
    exact ⟨m',_,by simpa using this⟩
   rw [List.drop_zero,List.take_of_length_le (by omega)] at hy
   exact ⟨y,hy⟩
  ·cases h1
theorem okWide_array {m:Nat} {e t:TypeId} {v:Value} {r:Reach} {b0:Nat} (ht:P.underlying t=some (.array m e)) (h:Value.okWide P w r b0 t v):∃ cs,v=.agg cs /\ cs.size=P.cellsOf t:=by
 simp only [Value.okWide,ht] at h
 obtain ⟨cs,h1,h2,_⟩:=h
 exact ⟨cs,h1,h2⟩
theorem arg_open (hC:∀ a u,w.cell? a=some u->C a.block a.off) {n:Nat} {t:TypeId} {τ:Ty} {v:Value} {d:DataW H} {ps:List MemPlace} {r:Reach} {b0:Nat} (hl:lay P n t=some τ) (hval:Value.okWide P w r b0 t v) (hd:DataW.Trod enc P w 0 spare held t v d ps) :
  ∃ (y:τ.D) (cs:List Value),RepD w C τ y cs /\ match isAg P t with | true=>v=.agg ⟨cs⟩ | false=>cs=[v]:=by
 obtain ⟨fuel,hf⟩:=hd
 obtain ⟨y,hy⟩:=(lay_open (enc:=enc) (spare:=spare) (held:=held) hC n t τ hl).2 _ _ _ hf
 refine ⟨y,_,hy,?_⟩
 cases n with
 | zero=>cases hl
 | succ n=>
  unfold lay at hl
  split at hl
  case h_2=>cases hl
  rename_i τ' h1
  unfold lay1 at h1
  unfold isAg
  split at h1
  ·rename_i ht
   obtain ⟨b,rfl⟩:=okWide_bool ht hval
   simp [ht,Value.cells]
  ·rename_i k ht
   obtain ⟨b,rfl⟩:=okWide_int ht hval
   simp [ht,Value.cells]
  ·rename_i ht
   obtain ⟨b,rfl⟩:=okWide_string ht hval
   simp [ht,Value.cells]
  ·rename_i e ht
   obtain ⟨a,n,c,rfl⟩:=okWide_slice ht hval
   simp [ht,Value.cells]
  ·rename_i m e ht
   obtain ⟨cs,rfl,_⟩:=okWide_array ht hval
   simp [ht,Value.cells]
  ·rename_i fs ht
   obtain ⟨cs,rfl,_⟩:=okWide_struct ht hval
   simp [ht,Value.cells]
  ·cases h1
end
def ltOf:Leaf->LT
 | .d t _=>.d t
 | .own _ E e _=>.own E e
def datOf:Leaf->Dat
 | .d t x=>⟨t,x⟩
 | .own _ _ e l=>⟨.sl e,l⟩
theorem appF_c {α:Type} {t:Ty} {ts:List Ty} {f:insT (t::ts) (Option α)} {x:t.D} {xs:List Dat} {r:Option α} (h:appF ts (f x) xs=r):appF (t::ts) f (⟨t,x⟩::xs)=r:=by
 show (match castD t x with | some a=>appF ts (f a) xs | none=>none)=_
 rw [castD_self];exact h
theorem appF_n {α:Type} {f r:Option α} (h:f=r):appF [] f []=r:=h
structure Arg where
 ag:Bool
 ls:List Leaf
 v:Value
def Arg.par (a:Arg):Par:=.v a.ag (a.ls.map ltOf)
def isDs (ls:List Leaf):Bool:=ls.all isD
theorem mk_ds {lab:Nat->Tok}:∀ {ls:List Leaf} (j:Nat),isDs ls=true->mkLs lab (ls.map ltOf) j (ls.map datOf)=some ls
 | [],_,_=>rfl
 | .d t x::ls,j,h=>by
  have h':isDs ls=true:=by simp [isDs] at h ⊢;exact h.2
  show (match castD t x,mkLs lab (ls.map ltOf) (j+1) (ls.map datOf) with | some a,some r=>some (Leaf.d t a::r) | _,_=>none)=_
  rw [castD_self,mk_ds (j+1) h']
 | .own _ _ _ _::ls,j,h=>by simp [isDs,isD] at h
theorem isM_args:∀ (al:List Arg) (i:Nat),isM (al.map Arg.par) i=false
 | [],0=>rfl
 | [],_+1=>rfl
 | a::al,0=>rfl
 | a::al,i+1=>isM_args al i
theorem parK_args:∀ (al:List Arg) (ls:List Leaf) (i:Nat),parK (al.map Arg.par) ls i=none
 | [],_,0=>rfl
 | [],_,_+1=>rfl
 | a::al,_,0=>rfl
 | a::al,ls,i+1=>parK_args al _ i
theorem parP_args:∀ (al:List Arg) (rest:List Leaf) (i:Nat),(∀ a,al[i]? = some a->parP (al.map Arg.par) (al.flatMap Arg.ls++rest) i=.w a.ag a.ls) /\ (al[i]? = none->parP (al.map Arg.par) (al.flatMap Arg.ls++rest) i=.raw undef)
 | [],_,0=>⟨fun a h=>by simp at h,fun _=>rfl⟩
 | [],_,_+1=>⟨fun a h=>by simp at h,fun _=>rfl⟩
 | a::al,rest,0=>by
  refine ⟨fun b h=>?_,fun h=>by simp at h⟩
  simp at h
  subst h
  show PV.w a.ag ((a.ls++al.flatMap Arg.ls++rest).take (a.ls.map ltOf).length)=_
  rw [List.length_map,List.append_assoc,List.take_left]
 | a::al,rest,i+1=>by
  have:=parP_args al rest i
  have e:parP ((a::al).map Arg.par) ((a::al).flatMap (·.ls)++rest) (i+1)=parP (al.map Arg.par) (al.flatMap Arg.ls++rest) i:=by
   show parP (al.map Arg.par) ((a.ls++al.flatMap Arg.ls++rest).drop (a.ls.map ltOf).length) i=_
   rw [List.length_map,List.append_assoc,List.drop_left]
  rw [e]
  simpa using this
section
variable {P : Program} {W : World}
def C00 (W:World):Com:=⟨fun b _=>b < W.heap.size,fun _ _=>none⟩
theorem c00_cell (W:World) (a:Addr) (u:Value) (h:W.cell? a=some u):C00 W a.block a.off:=cell_lt h
def F00 (W:World) (n:Nat) (pls:Pls):Fr:=⟨n,W,C00 W,fun _ _=>False,fun _=>none,fun k=>∃ e,(k,e,true)∈pls⟩
def G00 (W:World):Gh:=⟨C00 W,fun _=>none,fun _=>(0,0),fun _ _=>[],fun _=>none,fun _=>0⟩
def Arg.ok (W:World) (a:Arg):Prop:=isDs a.ls=true /\ ∀ (F:Fr) (g:Gh) (O:Tok->Bool),g.C=C00 W->RelV F g W O a.v a.ag a.ls
theorem Arg.mk_ok {τ:Ty} {y:τ.D} {cs:List Value} {ag:Bool} {v:Value} (h:RepD W (C00 W) τ y cs) (hv:match ag with | true=>v=.agg ⟨cs⟩ | false=>cs=[v]):(Arg.mk ag (flat τ y) v).ok W:=by
 refine ⟨List.all_eq_true.2 (flat_isD τ y),fun F g O hg=>⟨cs,repLs_flat (by rw [hg];exact h),?_⟩⟩
 cases ag <;> exact hv
def emp:Pls->List Dat
 | []=>[]
 | (_,e,_)::r=>⟨.sl e,([]:List e.D)⟩::emp r
def empL:Pls->List (Nat×List Leaf)
 | []=>[]
 | (k,e,wr)::r=>(k,[poolLeaf wr 0 e []])::empL r
theorem mk_emp:∀ pls:Pls,mkPools pls (emp pls)=some (empL pls)
 | []=>rfl
 | (k,e,wr)::r=>by
  show (match castD (t:=.sl e) (.sl e) ([]:List e.D),mkPools r (emp r) with | some l,some m=>some ((k,[poolLeaf wr 0 e l])::m) | _,_=>none)=_
  rw [show castD (t:=.sl e) (.sl e) ([]:List e.D)=some [] from castD_self (t:=.sl e) _,mk_emp r];rfl
theorem emp_find:∀ {pls:Pls} {k:Nat} {x:Nat×List Leaf},findL (empL pls) k=some x -> ∃ e wr,(k,e,wr)∈pls /\ x=(0,[poolLeaf wr 0 e []])
 | [],_,_,h=>by cases h
 | (j,e,wr)::r,k,x,h=>by
  have h':(match Nat.beq j k with | true=>some (0,[poolLeaf wr 0 e []]) | false=>findL (empL r) k)=some x:=h
  cases hj:Nat.beq j k with
  | true=>
   rw [hj] at h'
   injection h' with h'
   have:=Nat.eq_of_beq_eq_true hj
   subst this
   exact ⟨e,wr,by simp,h'.symm⟩
  | false=>
   rw [hj] at h'
   obtain ⟨e2,wr2,h1,h2⟩:=emp_find h'
   exact ⟨e2,wr2,by simp [h1],h2⟩
theorem args_rel {al:List Arg} {rs:List (Bool×List LT)} {pls:Pls} (hpl:okPls pls=true) (h:∀ a∈al,a.ok W) (n:Nat):∃ st,entrySt ⟨al.map Arg.par,rs,pls⟩ ((al.flatMap fun a=>a.ls.map datOf)++emp pls)=some st /\ MRel (F00 W n pls) (G00 W) st (fun i=>(al.map Arg.v).getD i undef) W:=by
 have hds:isDs (al.flatMap Arg.ls)=true:=by
  refine List.all_eq_true.2 fun l hl=>?_
  obtain ⟨a,ha,hl⟩:=List.mem_flatMap.1 hl
  exact List.all_eq_true.1 (h a ha).1 l hl
 have e1:parsT (al.map Arg.par)=(al.flatMap Arg.ls).map ltOf:=by
  unfold parsT
  rw [List.flatMap_map,List.map_flatMap]
  rfl
 have e2:(al.flatMap fun a=>a.ls.map datOf)=(al.flatMap Arg.ls).map datOf:=by rw [List.map_flatMap]
 have e3:(((al.flatMap Arg.ls).map datOf)++emp pls).take ((al.flatMap Arg.ls).map ltOf).length=(al.flatMap Arg.ls).map datOf:=by
  rw [List.length_map,show (al.flatMap Arg.ls).length=((al.flatMap Arg.ls).map datOf).length by rw [List.length_map],List.take_left]
 have e4:(((al.flatMap Arg.ls).map datOf)++emp pls).drop ((al.flatMap Arg.ls).map ltOf).length=emp pls:=by
  rw [List.length_map,show (al.flatMap Arg.ls).length=((al.flatMap Arg.ls).map datOf).length by rw [List.length_map],List.drop_left]
 refine ⟨_,by unfold entrySt;simp only [e1,e2,e3,e4,mk_ds 0 hds,mk_emp];rfl,?_⟩
 have hLL:∀ {k:Nat} {x:Nat×List Leaf},(match parK (al.map Arg.par) (al.flatMap Arg.ls) k with | some l=>some ((0:Nat),l) | none=>findL (empL pls) k)=some x -> ∃ e wr,(k,e,wr)∈pls /\ x=(0,[poolLeaf wr 0 e []]):=fun {k x} hx=>by
  rw [parK_args] at hx
  exact emp_find hx
 have hLP:∀ {k:Nat} {x:Nat×List Leaf},(match parK (al.map Arg.par) (al.flatMap Arg.ls) k with | some l=>some ((0:Nat),l) | none=>findL (empL pls) k)=some x->isPool k=false->False:=fun {k x} hx hp=>by
  obtain ⟨e,wr,h1,_⟩:=hLL hx
  rw [okPls_pool hpl h1] at hp
  cases hp
 refine ⟨⟨Nat.le_refl _,rfl,rfl,rfl,fun _ _ _=>rfl,fun b cs T fr _ hb=>⟨cs,fr,hb,rfl,fun _ _=>rfl⟩,fun _ _ _ _=>Iff.rfl,fun _ _ h=>h,fun _ _ _ h=>h,fun _ _ h=>h⟩,fun i=>?_,fun k σ ls hL hp=>(hLP hL hp).elim,fun k σ ls hL hp=>?_,fun k σ ls hL hn=>?_,fun t b hb=>(by cases hb),fun i t want ag l hs=>?_,fun d hd=>(by cases hd),fun i k hk=>?_,rfl,fun k k' b _ _ hb=>(by cases hb),fun k b j x _ hb=>(by cases hb),fun k b _ hb=>(by cases hb),fun k b _ hb=>(by cases hb),fun j j' x x' hj _ hp=>(hLP hj hp).elim,?_⟩
 ·show RelP _ _ W _ _ _ (match isM (al.map Arg.par) i with | true=>PV.loc i 0 | false=>parP (al.map Arg.par) (al.flatMap Arg.ls) i)
  rw [isM_args]
  have:=parP_args al [] i
  rw [List.append_nil] at this
  cases ha:al[i]? with
  | none=>
   show RelP _ _ W _ _ _ (parP (al.map Arg.par) (al.flatMap Arg.ls) i)
   rw [this.2 ha]
   show (al.map Arg.v).getD i undef=undef
   simp [List.getD_eq_getElem?_getD,ha]
  | some a=>
   show RelP _ _ W _ _ _ (parP (al.map Arg.par) (al.flatMap Arg.ls) i)
   rw [this.1 a ha]
   have e:(al.map Arg.v).getD i undef=a.v:=by simp [List.getD_eq_getElem?_getD,ha]
   show RelV _ _ W _ ((al.map Arg.v).getD i undef) a.ag a.ls
   rw [e]
   exact (h a (List.mem_of_getElem? ha)).2 _ _ _ rfl
 ·obtain ⟨e,wr,h1,h2⟩:=hLL hL
  injection h2 with h2 h3
  subst h3
  refine ⟨e,[],?_,fun j b hj=>(by cases hj),fun j x hx=>by simp at hx⟩
  cases wr with
  | true=>exact Or.inl ⟨0,rfl,rfl,e,h1⟩
  | false=>exact Or.inr rfl
 ·obtain ⟨e,wr,h1,h2⟩:=hLL hL
  injection h2 with h2 h3
  exact (hn h2).elim
 ·have hs':(match isM (al.map Arg.par) i with | true=>PV.loc i 0 | false=>parP (al.map Arg.par) (al.flatMap Arg.ls) i)=.spec t want ag l:=hs
  rw [isM_args] at hs'
  have:=parP_args al [] i
  rw [List.append_nil] at this
  have hs2:parP (al.map Arg.par) (al.flatMap Arg.ls) i=.spec t want ag l:=hs'
  cases ha:al[i]? with
  | none=>rw [this.2 ha] at hs2;cases hs2
  | some a=>rw [this.1 a ha] at hs2;cases hs2
 ·have hs':k∈keyP (match isM (al.map Arg.par) i with | true=>PV.loc i 0 | false=>parP (al.map Arg.par) (al.flatMap Arg.ls) i):=hk
  rw [isM_args] at hs'
  have:=parP_args al [] i
  rw [List.append_nil] at this
  have hs2:k∈keyP (parP (al.map Arg.par) (al.flatMap Arg.ls) i):=hs'
  cases ha:al[i]? with
  | none=>rw [this.2 ha] at hs2;cases hs2
  | some a=>rw [this.1 a ha] at hs2;cases hs2
 ·exact ⟨fun t b _ hb=>(by cases hb),fun k x hx hp=>(hLP hx hp).elim,fun b o hb=>(by cases hb),fun _ _ _=>rfl,fun b o hb=>(by cases hb),fun _ _ _=>rfl,fun b k j s hb=>(by cases hb)⟩
theorem tab_start {T:Tab} {n:Nat} {pls:Pls} (hT:∀ p∈T,∃ ty fr,W.heap[p.1]? = some (.cells p.2 ty fr)):TabF T (F00 W n pls):=fun p hp=>by
 obtain ⟨ty,fr,h⟩:=hT p hp
 refine ⟨⟨ty,fr,h⟩,fun i hi=>⟨?_,fun hx=>hx⟩⟩
 have:W.cell? ⟨p.1,i,none⟩=some p.2[i]:=by rw [cell_at h,Array.getElem?_eq_getElem hi]
 exact c00_cell W ⟨p.1,i,none⟩ _ this
theorem law_calls {T:Tab} (hT:∀ p∈T,∃ ty fr,W.heap[p.1]? = some (.cells p.2 ty fr)) {f:FuncId} {fd:Func} {s:Sig} {fn:s.Fn} {al:List Arg} {y:s.out.D} (hS:SoundFn P T f s fn) (hps:s.ps=al.map Arg.par) (hrs:s.rs.length=1) (hpl:okPls s.pls=true) (hf:P.funcs[f]? = some fd) (hok:∀ a∈al,a.ok W)
  (happ:appF s.ins fn.f ((al.flatMap fun a=>a.ls.map datOf)++emp s.pls)=some y) (hex:∀ st',exitSt s y=some st'->st'.φ 0=.w false [.d .bool true]):Calls P f ⟨al.map Arg.v⟩ W fun e W'=>e=.returned (.bool true) /\ Below W.heap.size W W':=by
 obtain ⟨ps,rs,pls⟩:=s
 have hps:ps=al.map Arg.par:=hps
 subst hps
 obtain ⟨st,h1,h2⟩:=args_rel (rs:=rs) hpl hok fd.ntmps
 refine (hS (F00 W fd.ntmps pls) (G00 W) st _ y _ W ⟨al.map Arg.v⟩ (tab_start hT) h1 happ h2 rfl (fun _=>Iff.rfl) (fun fd' h=>by rw [hf] at h;cases h;rfl) (by simp) (fun i=>by simp [Array.getD_eq_getD_getElem?,List.getD_eq_getElem?_getD])).mono fun e W' ⟨us,g',st',q1,q2,q3,q4,_⟩=>?_
 have hlen:us.length=1:=q2.trans hrs
 obtain ⟨u,rfl⟩:∃ u,us=[u]:=by
  match us,hlen with
  | [u],_=>exact ⟨u,rfl⟩
 have h0:=q4.slots 0
 rw [hex st' q3] at h0
 obtain ⟨cs,g1,g2⟩:=h0
 obtain ⟨c1,c2,rfl,g3,g4⟩:=g1
 have g3:c1=[.bool true]:=g3
 have g4:c2=[]:=g4
 subst g3;subst g4
 have g2:[Value.bool true]++[]=[u]:=g2
 injection g2 with g2
 have hu:u=.bool true:=g2.symm
 subst hu
 refine ⟨q1,q4.fr.os,q4.fr.tape,q4.fr.output,q4.fr.size,fun k hk=>q4.fr.old k hk fun _ h=>h⟩
end
section
variable {H : Type} {enc : TypeId × Value -> H} {P : Program}
theorem post_of_below {f:Func} {s:ChangeSpec} {apart fresh handsOn again:Bool} {W W':World} {args:Array Value} {v:Value} {ds gs:List (DataW H)} {before pa pv:List MemPlace}
  (hW:DataW.Whole enc P f.params.toList s.vars apart W args.toList ds gs before)
  (hres:∀ (b:Nat) (sp:Nat->Bool) (hd:Bool),DataW.TrodAll enc P W' b sp hd f.resultTypes.toList (v.resultList f.resultTypes.size) (s.fn H (ds++gs)).results [])
  (hargs:∀ sp:Nat->Bool,(∀ p∈before,sp p.block=true)->DataW.TrodAll enc P W' 0 sp true f.params.toList args.toList (s.fn H (ds++gs)).args pa)
  (hvars:∀ sp:Nat->Bool,(∀ p∈before,sp p.block=true)->DataW.TrodVars enc P W' sp s.vars (s.fn H (ds++gs)).vars pv)
  (hps:before=pa++pv) (hb:Below W.heap.size W W')
  (hok:∀ (j:Nat) (t:TypeId) (r:Value),f.resultTypes[j]? = some t->(v.resultList f.resultTypes.size)[j]? = some r->Value.okWide P W' .any 0 t r) :
  s.post enc P f apart fresh handsOn again W args v W':=by
 have hlt:∀ p∈before,p.block < W.heap.size:=fun p hp=>hW.lt p hp
 have hold:∀ p∈before,(fun b=>decide (b < W.heap.size)) p.block=true:=fun p hp=>by simpa using hlt p hp
 refine ⟨ds,gs,before,[],pa,pv,hW,hres _ _ _,hargs _ hold,hvars _ hold,World.keptBut_mono (fun p hp=>⟨hp,?_⟩) (hb.frame (· ∈ before)),fun _=>?_⟩
 ·rw [hps,List.mem_append] at hp
  exact Or.inr hp
 ·obtain ⟨_,_,_,_,_,hz,hn⟩:=hW
  refine ⟨hok,_,_,([]++pa)++pv,⟨[]++pa,pv,trodAll_append (hargs _ (fun _ _=>rfl)) (hres _ _ _),hvars _ (fun _ _=>rfl),rfl,?_,?_⟩,?_⟩
  ·intro b off hp
   have hin:MemPlace.cell b off∈before:=by rw [hps];simpa using hp
   rw [hb.frozen (hlt _ hin)]
   exact hz b off hin
  ·intro ha
   have:=hn ha
   rw [hps] at this
   simpa using this
  ·intro p hp _
   rw [hps]
   simpa using hp
theorem trodAll_stays (hl:laidOutB P=true) {W W':World} (hb:Below W.heap.size W W') {sp:Nat->Bool}:∀ {ts:List TypeId} {vs:List Value} {ds:List (DataW H)} {ps:List MemPlace},
  (ts.all fun t=>P.readableRec t&&decide (t < P.types.size))=true->DataW.TrodAll enc P W 0 (fun _=>true) true ts vs ds ps->(∀ p∈ps,p.block < W.heap.size)->(∀ p∈ps,sp p.block=true) ->
  DataW.TrodAll enc P W' 0 sp true ts vs ds ps
 | [],vs,ds,ps,_,h,_,_=>by
  obtain ⟨rfl,rfl,rfl⟩:=trodAll_nil h
  exact h
 | t::ts,vs,ds,ps,ht,h,hlt,hsp=>by
  obtain ⟨v,vs',d,ds',p,q,rfl,rfl,rfl,h1,h2⟩:=trodAll_cons h
  simp only [List.all_cons,Bool.and_eq_true,decide_eq_true_eq] at ht
  exact ⟨p,q,WideElems.Trod_stays hl ht.1.1 ht.1.2 h1 (fun x hx=>hb.same (hlt x (by simp [hx]))) (fun x hx=>hsp x (by simp [hx])),
   trodAll_stays hl hb ht.2 h2 (fun x hx=>hlt x (by simp [hx])) (fun x hx=>hsp x (by simp [hx])),rfl⟩
theorem law_post {tb:TypeId} {f:Func} {s:ChangeSpec} {fresh handsOn again:Bool} {W W':World} {args:Array Value} {ds:List (DataW H)} {before:List MemPlace}
  (hv:s.vars=[]) (hrt:f.resultTypes = #[tb]) (hb:P.underlying tb=some .bool) (hl:laidOutB P=true) (hp:(f.params.toList.all fun t=>P.readableRec t&&decide (t < P.types.size))=true)
  (hW:DataW.Whole enc P f.params.toList s.vars false W args.toList ds [] before) (hfn:(s.fn H (ds++[])).results=[.lit (.bool true)]) (hfa:(s.fn H (ds++[])).args=ds) (hfv:(s.fn H (ds++[])).vars=[])
  (hbel:Below W.heap.size W W'):s.post enc P f false fresh handsOn again W args (.bool true) W':=by
 have hlt:∀ p∈before,p.block < W.heap.size:=fun p hp=>hW.lt p hp
 have hW2:=hW
 obtain ⟨p,q,hA,hV,hpq,_,_⟩:=hW2
 rw [hv] at hV
 obtain ⟨_,rfl⟩:=trodVars_none hV
 have hpq':before=p:=by simpa using hpq
 subst hpq'
 refine post_of_below (pa:=before) (pv:=[]) hW ?_ (fun sp hsp=>?_) (fun sp _=>?_) (by simp) hbel ?_
 ·intro b sp hd
  rw [hfn,hrt]
  exact trodAll_cons_mk (shut_bool hb _) trodAll_mk0
 ·rw [hfa];exact trodAll_stays hl hbel hp hA hlt hsp
 ·rw [hfv,hv];rfl
 ·exact ok_one hrt rfl (okWide_bool_mk hb _)
end
end Pv
end Go.Proofs.YtifbhefbhlbofaaDoor
namespace Go.Proofs.YtifbhefbhlbofaaDoor
open Go.RowKit
namespace Pv
set_option linter.unusedVariables false
section
variable {F : Fr} {g : Gh} {st st' : PSt} {tmf : Nat -> Value} {w w' : World}
theorem appF_inv_c {α:Type} {t:Ty} {ts:List Ty} {f:insT (t::ts) (Option α)} {xs:List Dat} {y:α} (h:appF (t::ts) f xs=some y):∃ x xs',xs=⟨t,x⟩::xs' /\ appF ts (f x) xs'=some y:=by
 cases xs with
 | nil=>cases h
 | cons x xs'=>
  have h':(match castD t x.2 with | some a=>appF ts (f a) xs' | none=>none)=some y:=h
  split at h'
  ·rename_i a ha
   exact ⟨a,xs',by rw [<-castD_sig ha],h'⟩
  ·cases h'
theorem appF_inv_n {α:Type} {f:Option α} {xs:List Dat} {y:α} (h:appF [] f xs=some y):xs=[] /\ f=some y:=by
 cases xs with
 | nil=>exact ⟨rfl,h⟩
 | cons x xs'=>cases h
theorem Frame.below {C:Com} (h:Frame F C w) (hb:Below w.heap.size w w'):Frame F C w':=
 ⟨Nat.le_trans h.size hb.size,hb.os.trans h.os,hb.tape.trans h.tape,hb.output.trans h.output,fun b hlt hx=>(hb.block b (Nat.lt_of_lt_of_le hlt h.size)).trans (h.old b hlt hx),
  fun b cs T fr hlt hc=>by
   obtain ⟨cs',fr',h1,h2,h3⟩:=h.shape b cs T fr hlt hc
   exact ⟨cs',fr',(hb.block b (Nat.lt_of_lt_of_le hlt h.size)).trans h1,h2,h3⟩,h.com,h.mono,h.imono,fun b o hc=>Nat.lt_of_lt_of_le (h.lim b o hc) hb.size⟩
theorem bytes_of {W:World} {C:Com} {y:(Ty.sl (.int .u8)).D} {cs:List Value} (h:RepD W C (.sl (.int .u8)) y cs):∀ x∈(show List Int from y),0<=x /\ x < 256:=fun x hx=>by
 obtain ⟨a,n,c,e,h4,h5,h6,h7⟩:=h
 obtain ⟨i,hi⟩:=List.mem_iff_getElem?.1 hx
 obtain ⟨ad,us,e1,e2,e3,e4⟩:=h7 i x hi
 have hw:(Lit.int .u8 x).wf=true:=e4.2
 simp [Lit.wf,IntKind.min,IntKind.max,IntKind.signed,IntKind.bits] at hw
 omega
end
def Par.isv:Par->Bool
 | .v _ _=>true
 | .m _=>false
def exitO (s:Sig):Tok->Bool:=fun t=>hasT (.zero::labs (Tok.hd 0) s.outs 0) t
theorem isM_v:∀ {ps:List Par} (i:Nat),ps.all Par.isv=true->isM ps i=false
 | [],_,_=>rfl
 | .v _ _::_,0,_=>rfl
 | .v _ _::ps,i+1,h=>isM_v (ps:=ps) i (by simpa [Par.isv] using h)
 | .m _::_,_,h=>by simp [Par.isv] at h
theorem inoutAt_v:∀ {ps:List Par} {ls:List Leaf} (i:Nat),ps.all Par.isv=true->inoutAt ps ls i=none
 | [],_,_,_=>rfl
 | .v _ _::_,_,0,_=>rfl
 | .v _ _::ps,ls,i+1,h=>inoutAt_v (ps:=ps) i (by simpa [Par.isv] using h)
 | .m _::_,_,_,h=>by simp [Par.isv] at h
theorem resAt_w:∀ {rs:List (Bool×List LT)} {ls:List Leaf} (i:Nat),(∃ ag os,resAt rs ls i=.w ag os) \/ resAt rs ls i=.dead
 | [],_,_=>.inr rfl
 | (_,_)::_,_,0=>.inl ⟨_,_,rfl⟩
 | (_,_)::rs,ls,i+1=>resAt_w (rs:=rs) i
theorem mkLs_len {lab:Nat->Tok}:∀ {ts:List LT} {j:Nat} {xs:List Dat} {ls:List Leaf},mkLs lab ts j xs=some ls->xs.length=ts.length
 | [],_,[],_,_=>rfl
 | [],_,_::_,_,h=>by cases h
 | .d t::ts,j,[],ls,h=>by cases h
 | .own _ _::ts,j,[],ls,h=>by cases h
 | .row _::ts,j,[],ls,h=>by cases h
 | .d t::ts,j,x::xs,ls,h=>by
  unfold mkLs at h
  split at h
  case h_2=>cases h
  rename_i a r h1 h2
  simp [mkLs_len h2]
 | .own _ _::ts,j,x::xs,ls,h=>by
  unfold mkLs at h
  split at h
  case h_2=>cases h
  rename_i a r h1 h2
  simp [mkLs_len h2]
 | .row _::ts,j,x::xs,ls,h=>by
  unfold mkLs at h
  split at h
  case h_2=>cases h
  rename_i a r h1 h2
  simp [mkLs_len h2]
theorem mkPools_nil {xs:List Dat} {m:List (Nat×List Leaf)} (h:mkPools [] xs=some m):xs=[] /\ m=[]:=by
 cases xs with
 | nil=>injection h with h;exact ⟨rfl,h.symm⟩
 | cons x xs=>cases h
theorem sound_of {P:Program} {T:Tab} {f:FuncId} {s:Sig} {fn:s.Fn} (hp:s.ps.all Par.isv=true)
  (H:∀ (F:Fr) (g:Gh) (O:Tok->Bool) (xs:List Dat) (ls:List Leaf) (y:s.out.D) (tmf:Nat->Value) (w:World) (args:Array Value),(∀ p∈T,∃ ty fr,w.heap[p.1]? = some (.cells p.2 ty fr))->F.w0=w->(∀ b o,g.C b o->b < w.heap.size)->mkLs (Tok.hd 0) (parsT s.ps) 0 xs=some ls->appF s.ins fn.f xs=some y->args.size=s.ps.length ->
   (∀ i,RelP F g w O tmf (args.getD i undef) (parP s.ps ls i))->Calls P f args w fun e w'=>∃ us os,∃ C':Nat->Nat->Prop,∃ blk',e=.returned (retV us) /\ us.length=s.rs.length /\ mkLs (Tok.hd 0) s.outs 0 (unpackD s.outTs y)=some os /\ Below w.heap.size w w' /\
    (∀ b o,b < w.heap.size->(C' b o↔g.C b o)) /\ (∀ b o,C' b o->b < w'.heap.size) /\ blk' .zero=none /\ (∀ k b,blk' k=some b->w.heap.size<=b /\ b < w'.heap.size) /\ (∀ k k' b,blk' k=some b->blk' k'=some b->k=k') /\
    ∀ i,i < s.rs.length->RelP F ⟨⟨C',g.C.i⟩,blk',g.ρ,fun _ _=>[],g.ow,g.ver⟩ w' (exitO s) tmf (us.getD i undef) (resAt s.rs os i)) (hpls:s.pls=[]:=by rfl):SoundFn P T f s fn:=by
 intro F g st xs y tmf w args hT hent happ hrel hw hPT hn hsz htm
 unfold entrySt at hent
 split at hent
 case h_1=>cases hent
 case h_2=>cases hent
 rename_i ls pl hls hpl
 rw [hpls] at hpl
 obtain ⟨hd0,rfl⟩:=mkPools_nil hpl
 have hlx:xs.take (parsT s.ps).length=xs:=by
  have h1:=congrArg List.length hd0
  rw [List.length_drop,List.length_nil] at h1
  exact List.take_of_length_le (by omega)
 rw [hlx] at hls
 injection hent with hent
 have hφ:∀ i,st.φ i=parP s.ps ls i:=fun i=>by
  rw [<-hent]
  show (match isM s.ps i with | true=>PV.loc i 0 | false=>parP s.ps ls i)=_
  rw [isM_v i hp]
 refine (H F g st.O xs ls y tmf w args (fun p hp=>(tab_now hT hrel.fr p hp).1) hw hrel.fr.lim hls happ hsz fun i=>?_).mono ?_
 ·have:=hrel.slots i
  rw [hφ,htm] at this
  exact this
 ·rintro e w' ⟨us,os,C',blk',he,hus,hos,hbel,hC,hlim,hb0,hbk,hbi,hres⟩
  refine ⟨us,⟨⟨C',g.C.i⟩,blk',g.ρ,fun _ _=>[],g.ow,g.ver⟩,⟨resAt s.rs os,fun _=>none,exitO s,[],[],[]⟩,he,hus,?_,?_,fun k hk=>absurd ((isM_v k hp).symm.trans hk) (by decide)⟩
  ·unfold exitSt
   have hol:=mkLs_len hos
   rw [List.take_of_length_le (Nat.le_of_eq hol),List.drop_of_length_le (Nat.le_of_eq hol),hos,hpls]
   show some (PSt.mk (resAt s.rs os) (fun k=>match inoutAt s.ps (os.drop s.nres) k with | some l=>some ((0:Nat),l) | none=>findL [] k) (exitO s) [] [] [])=some (PSt.mk (resAt s.rs os) (fun _=>none) (exitO s) [] [] [])
   congr 2
   funext k
   rw [inoutAt_v k hp]
   rfl
  ·have hfr:=hrel.fr
   have h00:F.w0.heap.size<=w.heap.size:=hfr.size
   refine ⟨?_,fun i=>?_,fun k σ ls hl=>(by cases hl),fun k σ ls hl=>(by cases hl),fun k σ ls hl=>(by cases hl),fun t b hk=>(by cases hk),fun i t want ag ls hs=>?_,fun d hd=>(by cases hd),fun i k hk=>?_,hb0,fun k k' b _ _ h1 h2=>hbi k k' b h1 h2,fun k b j x _ _ hj=>(nomatch hj),fun k b _ h=>(hbk k b h).2,fun k b _ h=>.inl (Nat.le_trans h00 (hbk k b h).1),fun j j' x x' hj=>(nomatch hj),⟨fun t b _ hb=>?_,fun k x hx=>(nomatch hx),fun b o h'=>Nat.lt_of_lt_of_le (hrel.ows.lim b o h') hbel.size,hrel.ows.fr,hrel.ows.mono,hrel.ows.i,fun b k j s h' hpt=>?_⟩⟩
   ·have hf2:=hfr.below hbel
    refine ⟨hf2.size,hf2.os,hf2.tape,hf2.output,hf2.old,hf2.shape,fun b o hb hx=>?_,fun b o h=>?_,hf2.imono,hlim⟩
    ·exact (hC b o (Nat.lt_of_lt_of_le hb h00)).trans (hfr.com b o hb hx)
    ·have hgc:=hfr.mono b o h
     exact (hC b o (hfr.lim b o hgc)).2 hgc
   ·show RelP F ⟨⟨C',g.C.i⟩,blk',g.ρ,fun _ _=>[],g.ow,g.ver⟩ w' (exitO s) (fun i=>us.getD i undef) (us.getD i undef) (resAt s.rs os i)
    rcases Nat.lt_or_ge i s.rs.length with hi | hi
    ·have h:=hres i hi
     rcases resAt_w (rs:=s.rs) (ls:=os) i with ⟨ag,os',e⟩ | e
     ·rw [e] at h ⊢;exact h
     ·rw [e];trivial
    ·rw [resAt_out hi];trivial
   ·have hs:resAt s.rs os i=.spec t want ag ls:=hs
    rcases resAt_w (rs:=s.rs) (ls:=os) i with ⟨ag,os',e⟩ | e
    ·rw [e] at hs;cases hs
    ·rw [e] at hs;cases hs
   ·have hk:k∈keyP (resAt s.rs os i):=hk
    rcases resAt_w (rs:=s.rs) (ls:=os) i with ⟨ag,os',e⟩ | e
    ·rw [e] at hk;cases hk
    ·rw [e] at hk;cases hk
   ·have h1:=(hbk t b hb).1
    cases h2:g.ow b with
    | none=>rfl
    | some o=>
     have:=hrel.ows.lim b o h2
     omega
   ·obtain ⟨e,he⟩:=(hPT k).1 hpt
    rw [hpls] at he
    cases he
theorem sound_d {P:Program} {T:Tab} {f:FuncId} {s:Sig} {fn:s.Fn} (hp:s.ps.all Par.isv=true)
  (H:∀ (F:Fr) (g:Gh) (O:Tok->Bool) (xs:List Dat) (ls:List Leaf) (y:s.out.D) (tmf:Nat->Value) (w:World) (args:Array Value),(∀ p∈T,∃ ty fr,w.heap[p.1]? = some (.cells p.2 ty fr))->mkLs (Tok.hd 0) (parsT s.ps) 0 xs=some ls->appF s.ins fn.f xs=some y->args.size=s.ps.length ->
   (∀ i,RelP F g w O tmf (args.getD i undef) (parP s.ps ls i))->Calls P f args w fun e w'=>∃ us os,e=.returned (retV us) /\ us.length=s.rs.length /\ mkLs (Tok.hd 0) s.outs 0 (unpackD s.outTs y)=some os /\ Below w.heap.size w w' /\
    ∀ i,i < s.rs.length->RelP F ⟨g.C,fun _=>none,g.ρ,fun _ _=>[],g.ow,g.ver⟩ w' (exitO s) tmf (us.getD i undef) (resAt s.rs os i)) (hpls:s.pls=[]:=by rfl):SoundFn P T f s fn:=by
 refine sound_of hp (fun F g O xs ls y tmf w args hT hw hlim hls happ hsz hr=>(H F g O xs ls y tmf w args hT hls happ hsz hr).mono ?_) hpls
 rintro e w' ⟨us,os,he,hus,hos,hbel,hres⟩
 exact ⟨us,os,g.C.c,fun _=>none,he,hus,hos,hbel,fun _ _ _=>Iff.rfl,fun b o h=>Nat.lt_of_lt_of_le (hlim b o h) hbel.size,rfl,fun k b h=>(by cases h),fun k k' b h=>(by cases h),hres⟩
theorem own_out {F:Fr} {g:Gh} {w w':World} {s:Sig} {tmf:Nat->Value} {E:TypeId} {e:Ty} {l:List e.D} {b cap:Nat} {cur:Array Value} {y:s.out.D} (hw:F.w0=w) (hlim:∀ b o,g.C b o->b < w.heap.size) (hbel:Below w.heap.size w w') (hb:w.heap.size<=b)
  (hcell:w'.heap[b]? = some (.cells cur E (0,0))) (hl:l.length<=cap) (hc:cap<=maxLen) (hsz:cur.size=cap*e.size) (hel:∀ (i:Nat) (x:e.D),l[i]? = some x->RepD w' ⟨fun b' o=>g.C b' o \/ (b'=b /\ o < l.length*e.size),g.C.i⟩ e x ((cur.toList.drop (i*e.size)).take e.size))
  (hrs:s.rs=[(false,[.own E e])]) (hmk:mkLs (Tok.hd 0) s.outs 0 (unpackD s.outTs y)=some [.own (.hd 0 0) E e l]) :
  ∃ us os,∃ C':Nat->Nat->Prop,∃ blk',Ending.returned (.slice (some ⟨b,0,none⟩) l.length cap)=.returned (retV us) /\ us.length=s.rs.length /\ mkLs (Tok.hd 0) s.outs 0 (unpackD s.outTs y)=some os /\ Below w.heap.size w w' /\
   (∀ b o,b < w.heap.size->(C' b o↔g.C b o)) /\ (∀ b o,C' b o->b < w'.heap.size) /\ blk' .zero=none /\ (∀ k b,blk' k=some b->w.heap.size<=b /\ b < w'.heap.size) /\ (∀ k k' b,blk' k=some b->blk' k'=some b->k=k') /\
   ∀ i,i < s.rs.length->RelP F ⟨⟨C',g.C.i⟩,blk',g.ρ,fun _ _=>[],g.ow,g.ver⟩ w' (exitO s) tmf (us.getD i undef) (resAt s.rs os i):=by
 have hblt:b < w'.heap.size:=(Array.getElem?_eq_some_iff.1 hcell).1
 have hk0:∀ k b',(match tokEq k (.hd 0 0) with | true=>some b | false=>none)=some b'->k=.hd 0 0 /\ b'=b:=fun k b' hk=>by
  cases hq:tokEq k (.hd 0 0) with
  | false=>rw [hq] at hk;cases hk
  | true=>
   rw [hq] at hk
   injection hk with hk
   refine ⟨?_,hk.symm⟩
   cases k with
   | hd d j=>
    have:(Nat.beq d 0&&Nat.beq j 0)=true:=hq
    simp only [Bool.and_eq_true] at this
    rw [Nat.eq_of_beq_eq_true this.1,Nat.eq_of_beq_eq_true this.2]
   | zero=>cases hq
   | op _ _=>cases hq
 refine ⟨[.slice (some ⟨b,0,none⟩) l.length cap],[.own (.hd 0 0) E e l],fun b' o=>g.C b' o \/ (b'=b /\ o < l.length*e.size),fun k=>match tokEq k (.hd 0 0) with | true=>some b | false=>none,rfl,by rw [hrs];rfl,hmk,hbel,fun b' o hb'=>⟨fun h=>h.elim id fun h=>absurd h.1 (by omega),.inl⟩,fun b' o h=>?_,rfl,fun k b' hk=>?_,fun k k' b' hk hk'=>?_,fun i hi=>?_⟩
 ·rcases h with h | h
  ·exact Nat.lt_of_lt_of_le (hlim b' o h) hbel.size
  ·rw [h.1];exact hblt
 ·obtain ⟨_,rfl⟩:=hk0 k b' hk
  exact ⟨hb,hblt⟩
 ·rw [(hk0 k b' hk).1,(hk0 k' b' hk').1]
 ·rw [hrs] at hi ⊢
  match i,hi with
  | 0,_=>
   have hrepd:RepD w' ⟨fun b' o=>g.C b' o \/ (b'=b /\ o < l.length*e.size),g.C.i⟩ (.sl e) l [.slice (some ⟨b,0,none⟩) l.length cap]:=by
    refine ⟨_,_,_,rfl,rfl,hl,hc,fun i x hx=>?_⟩
    have hx:l[i]? = some x:=hx
    have hi:i < l.length:=(List.getElem?_eq_some_iff.1 hx).1
    have hr:=hel i x hx
    refine ⟨_,_,rfl,RepD.len hr,fun j u hj=>?_,hr⟩
    have hjl:j < e.size:=by
     have h1:=(List.getElem?_eq_some_iff.1 hj).1
     have h2:=RepD.len hr
     omega
    rw [List.getElem?_take,if_pos hjl,List.getElem?_drop] at hj
    rw [add_at]
    refine ⟨?_,.inr ⟨rfl,?_⟩⟩
    ·rw [cell_at hcell,<- Array.getElem?_toList,Nat.zero_add];exact hj
    ·show 0+(i*e.size+j) < _
     have h1:(i+1)*e.size<=l.length*e.size:=Nat.mul_le_mul_right _ hi
     rw [Nat.add_mul,Nat.one_mul] at h1
     omega
   refine ⟨[.slice (some ⟨b,0,none⟩) l.length cap],⟨_,[],rfl,⟨hrepd,fun _=>⟨_,rfl,.inr ⟨b,cap,cur,rfl,rfl,hcell,hl,hc,hsz,hel,?_,?_⟩⟩⟩,rfl⟩,rfl⟩
   ·intro o
    show (g.C b o \/ (b=b /\ o < l.length*e.size))↔o < l.length*e.size
    constructor
    ·rintro (h | h)
     ·have:=hlim _ _ h;omega
     ·exact h.2
    ·intro h;exact .inr ⟨rfl,h⟩
   ·intro o _
    exact .inl (by rw [hw];exact hb)
theorem own_nil {F:Fr} {g:Gh} {w w':World} {s:Sig} {tmf:Nat->Value} {E:TypeId} {e:Ty} {a:Option Addr} {y:s.out.D} (hlim:∀ b o,g.C b o->b < w.heap.size) (hbel:Below w.heap.size w w')
  (hrs:s.rs=[(false,[.own E e])]) (hmk:mkLs (Tok.hd 0) s.outs 0 (unpackD s.outTs y)=some [.own (.hd 0 0) E e ([]:List e.D)]) :
  ∃ us os,∃ C':Nat->Nat->Prop,∃ blk',Ending.returned (.slice a 0 0)=.returned (retV us) /\ us.length=s.rs.length /\ mkLs (Tok.hd 0) s.outs 0 (unpackD s.outTs y)=some os /\ Below w.heap.size w w' /\
   (∀ b o,b < w.heap.size->(C' b o↔g.C b o)) /\ (∀ b o,C' b o->b < w'.heap.size) /\ blk' .zero=none /\ (∀ k b,blk' k=some b->w.heap.size<=b /\ b < w'.heap.size) /\ (∀ k k' b,blk' k=some b->blk' k'=some b->k=k') /\
   ∀ i,i < s.rs.length->RelP F ⟨⟨C',g.C.i⟩,blk',g.ρ,fun _ _=>[],g.ow,g.ver⟩ w' (exitO s) tmf (us.getD i undef) (resAt s.rs os i):=by
 refine ⟨[.slice a 0 0],[.own (.hd 0 0) E e ([]:List e.D)],g.C.c,fun _=>none,rfl,by rw [hrs];rfl,hmk,hbel,fun _ _ _=>Iff.rfl,fun b o h=>Nat.lt_of_lt_of_le (hlim b o h) hbel.size,rfl,fun k b h=>(by cases h),fun k k' b h=>(by cases h),fun i hi=>?_⟩
 rw [hrs] at hi ⊢
 match i,hi with
 | 0,_=>
  refine ⟨[.slice a 0 0],⟨_,[],rfl,⟨⟨a,0,0,rfl,rfl,Nat.le_refl _,by unfold maxLen;omega,fun i x hx=>by simp [gt] at hx⟩,fun _=>⟨_,rfl,.inl ⟨a,rfl,rfl,rfl⟩⟩⟩,rfl⟩,rfl⟩
end Pv
end Go.Proofs.YtifbhefbhlbofaaDoor
namespace Go.Proofs.YtifbhefbhlbofaaDoor
open Go.RowKit Pv
set_option linter.unusedVariables false
theorem args_1 {args:Array Value} (h:args.size=1):args = #[args.getD 0 undef]:=by
 obtain ⟨al⟩:=args
 match al,h with
 | [v],_=>rfl
theorem args_2 {args:Array Value} (h:args.size=2):args = #[args.getD 0 undef,args.getD 1 undef]:=by
 obtain ⟨al⟩:=args
 match al,h with
 | [v,u],_=>rfl
theorem infoU:(Tryd.prog.info? 5).map (fun i=>(i.zero,i.size,i.bytes))=some (some (.int .u8 0),1,1):=by kernel_rfl
theorem ints_of {w:World} {C:Com} {k:IntKind} {l:List Int} {cs:List Value} (h:RepD w C (.sl (.int k)) l cs) :
  ∃ a n c,cs=[.slice a n c] /\ l.length=n /\ n<=c /\ c<=maxLen /\ (∀ x∈l,(Lit.int k x).wf=true) /\ (∀ ad,a=some ad -> ∀ (i:Nat) x,l[i]? = some x->w.cell? (ad.add i)=some (.int k x)) /\ (a=none->l=[]):=by
 obtain ⟨a,n,c,e0,e1,e2,e3,e4⟩:=h
 have hel:∀ (i:Nat) x,l[i]? = some x -> ∃ ad,a=some ad /\ w.cell? (ad.add i)=some (.int k x) /\ (Lit.int k x).wf=true:=fun i x hx=>by
  obtain ⟨ad,us,h1,h2,h3,h4,h5⟩:=e4 i x hx
  refine ⟨ad,h1,?_,h5⟩
  have h4:us=[.int k x]:=h4
  have:=(h3 0 (.int k x) (by rw [h4];rfl)).1
  rw [show (Ty.int k).size=1 from rfl,Nat.mul_one,Nat.add_zero] at this
  exact this
 refine ⟨a,n,c,e0,e1,e2,e3,fun x hx=>?_,fun ad hz i x hx=>?_,fun hz=>?_⟩
 ·obtain ⟨i,hi⟩:=List.mem_iff_getElem?.1 hx
  exact (hel i x hi).choose_spec.2.2
 ·obtain ⟨ad',h1,h2,_⟩:=hel i x hx
  rw [hz] at h1
  injection h1 with h1
  rw [h1];exact h2
 ·cases l with
  | nil=>rfl
  | cons x l=>
   obtain ⟨ad',h1,_⟩:=hel 0 x rfl
   rw [hz] at h1;cases h1
theorem rel_ints {F:Fr} {g:Gh} {w:World} {O:Tok->Bool} {tmf:Nat->Value} {u:Value} {k:IntKind} {l:List Int} (h:RelP F g w O tmf u (.w false [.d (.sl (.int k)) l])) :
  ∃ a n c,u=.slice a n c /\ l.length=n /\ n<=c /\ c<=maxLen /\ (∀ x∈l,(Lit.int k x).wf=true) /\ (∀ ad,a=some ad -> ∀ (i:Nat) x,l[i]? = some x->w.cell? (ad.add i)=some (.int k x)) /\ (a=none->l=[]):=by
 obtain ⟨a,n,c,e0,r⟩:=ints_of (rel_leaf.1 h)
 exact ⟨a,n,c,by injection e0,r⟩
theorem own_row {F:Fr} {g:Gh} {w w':World} {s:Sig} {tmf:Nat->Value} {E:TypeId} {k:IntKind} {l:List Int} {v:Value} {y:s.out.D} (hw:F.w0=w) (hlim:∀ b o,g.C b o->b < w.heap.size) (hbel:Below w.heap.size w w')
  (hrow:w'.ownsRow w.heap.size E 1 v l.length (l.map (Value.int k))) (hwf:∀ x∈l,(Lit.int k x).wf=true)
  (hrs:s.rs=[(false,[.own E (.int k)])]) (hmk:mkLs (Tok.hd 0) s.outs 0 (unpackD s.outTs y)=some [.own (.hd 0 0) E (.int k) l]) :
  ∃ us os,∃ C':Nat->Nat->Prop,∃ blk',Ending.returned v=.returned (retV us) /\ us.length=s.rs.length /\ mkLs (Tok.hd 0) s.outs 0 (unpackD s.outTs y)=some os /\ Below w.heap.size w w' /\
   (∀ b o,b < w.heap.size->(C' b o↔g.C b o)) /\ (∀ b o,C' b o->b < w'.heap.size) /\ blk' .zero=none /\ (∀ k b,blk' k=some b->w.heap.size<=b /\ b < w'.heap.size) /\ (∀ k k' b,blk' k=some b->blk' k'=some b->k=k') /\
   ∀ i,i < s.rs.length->RelP F ⟨⟨C',g.C.i⟩,blk',g.ρ,fun _ _=>[],g.ow,g.ver⟩ w' (exitO s) tmf (us.getD i undef) (resAt s.rs os i):=by
 obtain ⟨h0,⟨rfl,hn⟩ | ⟨b,cap,cur,rfl,h2,h3,h4,h5,h6,h7⟩⟩:=hrow
 ·have:l=[]:=List.eq_nil_of_length_eq_zero hn
  subst this
  exact own_nil hlim hbel hrs hmk
 ·refine own_out (e:=.int k) (l:=l) hw hlim hbel h2 h3 h4 h5 h6 (fun i x hx=>?_) hrs hmk
  have hx:l[i]? = some x:=hx
  have hin:i < l.length:=(List.getElem?_eq_some_iff.1 hx).1
  have hcell:cur.toList[i]? = some (.int k x):=by
   have e:(cur.toList.take (l.length*1))[i]? = some (.int k x):=by
    rw [h7,List.getElem?_map,hx];rfl
   rw [List.getElem?_take] at e
   split at e
   ·exact e
   ·cases e
  refine ⟨?_,hwf x (List.mem_of_getElem? hx)⟩
  rw [show (Ty.int k).size=1 from rfl,Nat.mul_one,List.drop_eq_getElem_cons (List.getElem?_eq_some_iff.1 hcell).1]
  simp [(List.getElem?_eq_some_iff.1 hcell).2]
end Go.Proofs.YtifbhefbhlbofaaDoor
namespace Go.Proofs.YtifbhefbhlbofaaDoor
open Pv
set_option linter.unusedVariables false
def idxI:List Int->Int->Int
 | [],_=>-1
 | x::r,c=>cond (x==c) 0 (cond (idxI r c == -1) (-1) (idxI r c+1))
def splitI:List Int->Int->List (List Int)
 | [],_=>[[]]
 | x::s,c=>cond (x==c) ([]::splitI s c) (match splitI s c with | []=>[[x]] | w::r=>(x::w)::r)
abbrev Zp16:Ty:=(.pr (.ptr 91) .bool)
abbrev Zp15:Ty:=(.pr .str (.pr .str .bool))
abbrev Zp14:Ty:=(.pr (.int .i64) (.ptr 71))
abbrev Zp13:Ty:=(.pr (.int .i64) (.int .i64))
abbrev Zp12:Ty:=(.pr (.int .i64) (.sl (.int .u8)))
abbrev Zp11:Ty:=(.pr .wi (.pr .bool (.pr .bool (.pr .bool (.os 5 (.int .u8))))))
abbrev Zp10:Ty:=(.pr (.os 109 Zp15) Zp13)
abbrev Zp9:Ty:=(.pr (.arr 31 (.int .i64)) (.pr (.arr 31 (.int .i64)) (.pr (.arr 31 (.int .i64)) (.os 3 (.int .i64)))))
abbrev Zp8:Ty:=(.pr (.int .i64) (.pr (.ptr 73) (.pr (.ptr 73) (.pr .bool (.pr .bool (.pr .bool (.pr (.int .i64) (.pr (.mp 51) (.pr (.int .i64) (.pr (.os 63 (.sl Zp13)) (.pr (.pr (.int .i64) (.pr (.int .i64) (.pr (.int .i64) (.pr (.int .i64) Zp13)))) (.pr (.ptr 78) (.pr (.int .i64) .bool)))))))))))))
abbrev Zt7:Type:=List (Int×Bool)
abbrev Zt6:Type:=List (List Int×List Int×Bool)
abbrev Zt5:Type:=List (List (Int×Int))
abbrev Zt4:Type:=List (Int×List Int)
abbrev Zt3:Type:=List (Zt6×Int×Int)
abbrev Zt2:Type:=List (List Int×List Int×List Int×List Int)
abbrev Zt1:Type:=List (Int×Int×Int×Bool×Bool×Bool×Int×Int×Int×Zt5×(Int×Int×Int×Int×Int×Int)×Int×Int×Bool)
def F_strings_Split_sig:Sig:=⟨[.v false [.d .str],.v false [.d .str]],[(false,[.own 9 .str])],[]⟩
def F_strings_Split (s t:List Int):Option (List (List Int)):=match t with
 | [c]=>cond (Nat.ble s.length 4000000000) (some (splitI s c)) none
 | _=>none
def F_internal_stringslite_Index_sig:Sig:=⟨[.v false [.d .str],.v false [.d .str]],[(false,[.d (.int .i64)])],[]⟩
def F_internal_stringslite_Index (s t:List Int):Option Int:=match t with
 | [c]=>some (idxI s c)
 | _=>none
def F_slices_Clone_byte_byte_sig:Sig:=⟨[.v false [.d (.sl (.int .u8))]],[(false,[.own 5 (.int .u8)])],[]⟩
def F_slices_Clone_byte_byte (l:List Int):Option (List Int):=cond (Nat.ble l.length 100000000) (some l) none
def F_bytes_Clone_sig:Sig:=⟨[.v false [.d (.sl (.int .u8))]],[(false,[.own 5 (.int .u8)])],[]⟩
def F_bytes_Clone (l:List Int):Option (List Int):=cond (Nat.ble l.length 100000000) (some l) none
def F_slices_Clone_stat_Field_stat_Field_sig:Sig:=⟨[.v false [.d (.sl Zp15)]],[(false,[.own 109 Zp15])],[]⟩
def F_slices_Clone_stat_Field_stat_Field (l:Zt6):Option (Zt6):=cond (Nat.ble l.length 1000000) (some l) none
def F_slices_Concat_byte_byte_sig:Sig:=⟨[.v false [.d (.sl (.sl (.int .u8)))]],[(false,[.own 5 (.int .u8)])],[]⟩
def F_slices_Concat_byte_byte (l:List (List Int)):Option (List Int):=cond (Nat.ble l.flatten.length 100000000&&Nat.ble l.length 100000000) (some l.flatten) none
end Go.Proofs.YtifbhefbhlbofaaDoor
namespace Go.Proofs
open Go.Shelf Go.RowKit Go.Lib Go.Sort
def Tryd.lays219_ren:Go.Shelf.Ren:=⟨fun | 219=>89 | 217=>93 | 225=>94 | 224=>95 | 267=>96 | 266=>98 | 314=>99 | n=>n,fun | 9=>9 | 3=>3 | 4=>4 | 5=>5 | 46=>80 | 146=>155 | 51=>154 | n=>n,fun | 1=>0 | n=>n⟩
theorem Tryd.lays219:Go.Proofs.Lays.n219 Tryd.prog Tryd.lays219_ren:={
 mixed:=by kernel_rfl
 f217:=Tryd.func93.trans (congrArg some (by kernel_rfl))
 f219:=Tryd.func89.trans (congrArg some (by kernel_rfl))
 f224:=Tryd.func95.trans (congrArg some (by kernel_rfl))
 f225:=Tryd.func94.trans (congrArg some (by kernel_rfl))
 f266:=Tryd.func98.trans (congrArg some (by kernel_rfl))
 f267:=Tryd.func96.trans (congrArg some (by kernel_rfl))
 f314:=Tryd.func99.trans (congrArg some (by kernel_rfl))
 t3:=Tryd.underlying3
 a3:=Tryd.isAgg3
 z3:=Tryd.sizeOf3
 v3:=Tryd.zeroValue3
 t4:=Tryd.underlying4
 a4:=Tryd.isAgg4
 z4:=Tryd.sizeOf4
 v4:=Tryd.zeroValue4
 t5:=Tryd.underlying5
 a5:=Tryd.isAgg5
 z5:=Tryd.sizeOf5
 v5:=Tryd.zeroValue5
 t9:=Tryd.underlying9
 a9:=Tryd.isAgg9
 z9:=Tryd.sizeOf9
 v9:=Tryd.zeroValue9
 t46:=Tryd.underlying80
 a46:=Tryd.isAgg80
 z46:=Tryd.sizeOf80
 v46:=Tryd.zeroValue80
 t51:=Tryd.underlying154
 a51:=Tryd.isAgg154
 z51:=Tryd.sizeOf154
 v51:=Tryd.zeroValue154
 t146:=Tryd.underlying155
 a146:=Tryd.isAgg155
 z146:=Tryd.sizeOf155
 v146:=Tryd.zeroValue155
 g1:=by kernel_rfl }
theorem Tryd.stringslite_Index_one (s:ByteArray) (c:UInt8) (w:World) :
 Calls Tryd.prog 89 #[.string s,.string ⟨#[c]⟩] w fun e w'=>e=.returned (.int .i64 (Lib.indexByte s.data.toList c)) /\ w'=w:=Any.stringslite_Index_one Tryd.lays219 s c w
def Tryd.lays146_ren:Go.Shelf.Ren:=⟨fun | 146=>80 | 221=>83 | 268=>86 | 138=>87 | 143=>88 | 195=>90 | 197=>91 | 218=>92 | 219=>89 | 260=>97 | 217=>93 | 225=>94 | 224=>95 | 267=>96 | 266=>98 | 314=>99 | n=>n,fun | 9=>9 | 31=>137 | 3=>3 | 4=>4 | 0=>0 | 105=>151 | 21=>21 | 5=>5 | 46=>80 | 119=>157 | 139=>160 | 138=>159 | 146=>155 | 51=>154 | n=>n,fun | 1=>0 | 3=>1 | 4=>2 | n=>n⟩
theorem Tryd.lays146:Go.Proofs.Lays.n146 Tryd.prog Tryd.lays146_ren:={
 mixed:=by kernel_rfl
 f138:=Tryd.func87.trans (congrArg some (by kernel_rfl))
 f143:=Tryd.func88.trans (congrArg some (by kernel_rfl))
 f146:=Tryd.func80.trans (congrArg some (by kernel_rfl))
 f195:=Tryd.func90.trans (congrArg some (by kernel_rfl))
 f197:=Tryd.func91.trans (congrArg some (by kernel_rfl))
 f217:=Tryd.func93.trans (congrArg some (by kernel_rfl))
 f218:=Tryd.func92.trans (congrArg some (by kernel_rfl))
 f219:=Tryd.func89.trans (congrArg some (by kernel_rfl))
 f221:=Tryd.func83.trans (congrArg some (by kernel_rfl))
 f224:=Tryd.func95.trans (congrArg some (by kernel_rfl))
 f225:=Tryd.func94.trans (congrArg some (by kernel_rfl))
 f260:=Tryd.func97.trans (congrArg some (by kernel_rfl))
 f266:=Tryd.func98.trans (congrArg some (by kernel_rfl))
 f267:=Tryd.func96.trans (congrArg some (by kernel_rfl))
 f268:=Tryd.func86.trans (congrArg some (by kernel_rfl))
 f314:=Tryd.func99.trans (congrArg some (by kernel_rfl))
 t0:=Tryd.underlying0
 a0:=Tryd.isAgg0
 z0:=Tryd.sizeOf0
 v0:=Tryd.zeroValue0
 t3:=Tryd.underlying3
 a3:=Tryd.isAgg3
 z3:=Tryd.sizeOf3
 v3:=Tryd.zeroValue3
 t4:=Tryd.underlying4
 a4:=Tryd.isAgg4
 z4:=Tryd.sizeOf4
 v4:=Tryd.zeroValue4
 t5:=Tryd.underlying5
 a5:=Tryd.isAgg5
 z5:=Tryd.sizeOf5
 v5:=Tryd.zeroValue5
 t9:=Tryd.underlying9
 a9:=Tryd.isAgg9
 z9:=Tryd.sizeOf9
 v9:=Tryd.zeroValue9
 t21:=Tryd.underlying21
 a21:=Tryd.isAgg21
 z21:=Tryd.sizeOf21
 v21:=Tryd.zeroValue21
 t31:=Tryd.underlying137
 a31:=Tryd.isAgg137
 z31:=Tryd.sizeOf137
 v31:=Tryd.zeroValue137
 t46:=Tryd.underlying80
 a46:=Tryd.isAgg80
 z46:=Tryd.sizeOf80
 v46:=Tryd.zeroValue80
 t51:=Tryd.underlying154
 a51:=Tryd.isAgg154
 z51:=Tryd.sizeOf154
 v51:=Tryd.zeroValue154
 t105:=Tryd.underlying151
 a105:=Tryd.isAgg151
 z105:=Tryd.sizeOf151
 v105:=Tryd.zeroValue151
 t119:=Tryd.underlying157
 a119:=Tryd.isAgg157
 z119:=Tryd.sizeOf157
 t138:=Tryd.underlying159
 a138:=Tryd.isAgg159
 z138:=Tryd.sizeOf159
 v138:=Tryd.zeroValue159
 t139:=Tryd.underlying160
 a139:=Tryd.isAgg160
 z139:=Tryd.sizeOf160
 v139:=Tryd.zeroValue160
 t146:=Tryd.underlying155
 a146:=Tryd.isAgg155
 z146:=Tryd.sizeOf155
 v146:=Tryd.zeroValue155
 g1:=by kernel_rfl
 g3:=by kernel_rfl
 g4:=by kernel_rfl }
theorem Tryd.strings_Split (s sep:ByteArray) (m:Int) (w:World) (hs:s.size < 4294967281) (hm:w.cell? ⟨0,0,none⟩=some (.int .i64 m)) (h1:1<=sep.size) :
  Calls Tryd.prog 80 #[.string s,.string sep] w fun e w'=>
   e=.returned (.slice (some ⟨w.heap.size,0,none⟩) (Lib.countB s sep+1) (Lib.countB s sep+1)) /\ w'=w.alloc (.cells ((Lib.splitB sep 0 (Lib.countB s sep) s).map Value.string).toArray 9):=Any.strings_Split Tryd.lays146 (by kernel_rfl) s sep m w hs hm h1
end Go.Proofs
namespace Go.Proofs.YtifbhefbhlbofaaDoor
open Go.RowKit Pv
set_option linter.unusedVariables false
theorem bytes_size {s:ByteArray} {l:List Int} (h:bytesL s=l):s.size=l.length:=by rw [<-h,bytes_len]
theorem err_cell {w:World} {T:Tab} {g:Nat} {v:Value} (hT:∀ p∈T,∃ ty fr,w.heap[p.1]? = some (.cells p.2 ty fr)) (h:(g,#[v])∈T):w.cell? ⟨g,0,none⟩=some v:=by
 obtain ⟨ty,fr,h1⟩:=hT _ h
 rw [cell_at h1];rfl
theorem idx_lib:∀ (l:List UInt8) (c:UInt8),Lib.indexByte l c=idxI (l.map byteI) (byteI c)
 | [],_=>rfl
 | b::l,c=>by
  have ih:=idx_lib l c
  show (if b==c then 0 else if Lib.indexByte l c == -1 then -1 else Lib.indexByte l c+1)=cond (byteI b==byteI c) 0 (cond (idxI (l.map byteI) (byteI c) == -1) (-1) (idxI (l.map byteI) (byteI c)+1))
  rw [ih]
  have e:(byteI b==byteI c)=(b==c):=by
   by_cases h:b=c
   ·subst h;simp
   ·have:byteI b≠byteI c:=fun e=>h (UInt8.toNat_inj.1 (by unfold byteI at e;exact Int.ofNat.inj e))
    rw [beq_eq_false_iff_ne.2 this,beq_eq_false_iff_ne.2 h]
  rw [e]
  cases b==c <;> cases idxI (l.map byteI) (byteI c) == -1 <;> rfl
theorem idxI_in:∀ (l:List Int) (c:Int),-1<=idxI l c /\ idxI l c < l.length
 | [],c=>⟨Int.le_refl _,by show (-1:Int) < 0;decide⟩
 | x::l,c=>by
  obtain ⟨h1,h2⟩:=idxI_in l c
  unfold idxI
  cases x==c
  ·cases h:idxI l c == -1
   ·show -1<=idxI l c+1 /\ idxI l c+1 < _
    rw [List.length_cons];omega
   ·show -1<=(-1:Int) /\ (-1:Int) < _
    rw [List.length_cons];omega
  ·show -1<=(0:Int) /\ (0:Int) < _
   rw [List.length_cons];omega
theorem splitI_ne (s:List Int) (c:Int):splitI s c≠[]:=by
 cases s with
 | nil=>simp [splitI]
 | cons x s=>
  unfold splitI
  cases x==c
  ·rw [cond_false];split <;> simp
  ·simp
theorem splitI_miss:∀ {s:List Int} {c:Int},(∀ x∈s,x≠c)->splitI s c=[s]
 | [],_,_=>rfl
 | x::s,c,h=>by
  have ih:=splitI_miss (s:=s) (c:=c) fun y hy=>h y (by simp [hy])
  unfold splitI
  rw [ih,beq_eq_false_iff_ne.2 (h x (by simp)),cond_false]
theorem splitI_hit:∀ {u v:List Int} {c:Int},(∀ x∈u,x≠c)->splitI (u++c::v) c=u::splitI v c
 | [],v,c,_=>by
  show cond (c==c) ([]::splitI v c) _=_
  rw [beq_self_eq_true];rfl
 | x::u,v,c,h=>by
  have ih:=splitI_hit (u:=u) (v:=v) (c:=c) fun y hy=>h y (by simp [hy])
  show cond (x==c) _ (match splitI (u++c::v) c with | []=>[[x]] | w::r=>(x::w)::r)=_
  rw [ih,beq_eq_false_iff_ne.2 (h x (by simp)),cond_false]
theorem splitI_sum:∀ (s:List Int) (c:Int),((splitI s c).map List.length).sum+(splitI s c).length=s.length+1
 | [],c=>rfl
 | x::s,c=>by
  have ih:=splitI_sum s c
  unfold splitI
  cases x==c
  ·rw [cond_false]
   cases h:splitI s c with
   | nil=>exact absurd h (splitI_ne s c)
   | cons w r=>
    rw [h] at ih
    simp only [List.map_cons,List.sum_cons,List.length_cons] at ih ⊢
    omega
  ·simp only [cond_true,List.map_cons,List.sum_cons,List.length_cons,List.length_nil]
   omega
theorem index_byte (c:UInt8):∀ l:List UInt8,Lib.index l [c]=Lib.indexByte l c
 | []=>rfl
 | b::l=>by
  have ih:=index_byte c l
  unfold Lib.index Lib.indexByte
  rw [ih]
  have e:([c].isPrefixOf (b::l))=(b==c):=by
   show (c==b&&List.isPrefixOf [] l)=_
   rw [show List.isPrefixOf [] l=true by cases l <;> rfl,Bool.and_true]
   by_cases h:b=c
   ·subst h;simp
   ·rw [beq_eq_false_iff_ne.2 h,beq_eq_false_iff_ne.2 (Ne.symm h)]
  rw [e]
theorem byteI_ne {a b:UInt8} (h:a≠b):byteI a≠byteI b:=fun e=>h (UInt8.toNat_inj.1 (by unfold byteI at e;exact Int.ofNat.inj e))
theorem indexB_byte (c:UInt8) (s:ByteArray):Lib.indexB s ⟨#[c]⟩=Lib.indexByte s.data.toList c:=index_byte c _
theorem no_byte {s:ByteArray} {c:UInt8} (h:Lib.indexByte s.data.toList c = -1):∀ x∈bytesL s,x≠byteI c:=fun x hx e=>by
 obtain ⟨b,hb,rfl⟩:=List.mem_map.1 hx
 obtain ⟨k,hk⟩:=List.mem_iff_getElem?.1 hb
 have hbc:b=c:=by
  by_cases hbc:b=c
  ·exact hbc
  ·exact absurd e (byteI_ne hbc)
 rw [hbc] at hk
 exact Lib.indexByte_none h k hk
theorem at_byte {s:ByteArray} {c:UInt8} {i:Nat} (h:Lib.indexByte s.data.toList c=i):bytesL s=(bytesL s).take i++byteI c::(bytesL s).drop (i+1) /\ ∀ x∈(bytesL s).take i,x≠byteI c:=by
 obtain ⟨h1,h2⟩:=Lib.indexByte_some h
 have hi:i < s.data.toList.length:=(List.getElem?_eq_some_iff.1 h1).1
 have hg:(bytesL s)[i]? = some (byteI c):=by
  show (s.data.toList.map byteI)[i]? = _
  rw [List.getElem?_map,h1];rfl
 refine ⟨?_,fun x hx e=>?_⟩
 ·have hlt:i < (bytesL s).length:=(List.getElem?_eq_some_iff.1 hg).1
  have hge:(bytesL s)[i]=byteI c:=by
   rw [List.getElem?_eq_getElem hlt] at hg
   exact Option.some.inj hg
  rw [<-hge,<- List.drop_eq_getElem_cons hlt,List.take_append_drop]
 ·obtain ⟨j,hj⟩:=List.mem_iff_getElem?.1 hx
  rw [List.getElem?_take] at hj
  split at hj
  ·rename_i hji
   have hj':(s.data.toList.map byteI)[j]? = some x:=hj
   rw [List.getElem?_map] at hj'
   obtain ⟨b,hb,rfl⟩:=Option.map_eq_some_iff.1 hj'
   have hbc:b=c:=by
    by_cases hbc:b=c
    ·exact hbc
    ·exact absurd e (byteI_ne hbc)
   rw [hbc] at hb
   exact h2 j hji hb
  ·cases hj
theorem splitB_I (c:UInt8):∀ (k:Nat) (s:ByteArray),Lib.countB s ⟨#[c]⟩=k->(Lib.splitB ⟨#[c]⟩ 0 k s).map bytesL=splitI (bytesL s) (byteI c):=by
 intro k
 induction k with
 | zero=>
  intro s hk
  rcases Lib.indexB_cases s ⟨#[c]⟩ with h | ⟨i,h,hi⟩
  ·rw [Lib.splitB_zero,splitI_miss (no_byte (by rw [<-indexB_byte];exact h))];rfl
  ·rw [Lib.countB_hit s ⟨#[c]⟩ i (Nat.le_refl _) h] at hk
   omega
 | succ k ih=>
  intro s hk
  rcases Lib.indexB_cases s ⟨#[c]⟩ with h | ⟨i,h,hi⟩
  ·rw [Lib.countB_miss s ⟨#[c]⟩ h] at hk
   cases hk
  ·rw [Lib.countB_hit s ⟨#[c]⟩ i (Nat.le_refl _) h] at hk
   rw [Lib.splitB_hit _ _ _ _ _ h,List.map_cons,ih _ (by omega)]
   obtain ⟨h1,h2⟩:=at_byte (s:=s) (c:=c) (i:=i) (by rw [<-indexB_byte];exact h)
   have e1:bytesL (s.extract 0 (i+0))=(bytesL s).take i:=by rw [bytes_extract,List.drop_zero,Nat.add_zero]
   have e2:bytesL (s.extract (i+(⟨#[c]⟩:ByteArray).size) s.size)=(bytesL s).drop (i+1):=by
    rw [bytes_extract,List.take_of_length_le (by rw [bytes_len];omega)]
    rfl
   rw [e1,e2]
   conv=>rhs;rw [h1]
   rw [splitI_hit h2]
theorem mem_sum:∀ {l:List Nat} {n:Nat},n∈l->n<=l.sum
 | m::l,n,h=>by
  rw [List.sum_cons]
  rcases List.mem_cons.1 h with rfl | h
  ·omega
  ·have:=mem_sum h;omega
def has_maxlen (T:Tab):Prop:=∃ m:Int,(0,#[Value.int .i64 m])∈T
theorem F_internal_stringslite_Index_sound {T:Tab}:SoundFn Tryd.prog T 89 F_internal_stringslite_Index_sig ⟨F_internal_stringslite_Index⟩:=by
 refine sound_d rfl fun F g O xs ls y tmf w args hT hls happ hsz hr=>?_
 obtain ⟨(l:List Int),xs',rfl,h2⟩:=appF_inv_c (ts:=[.str]) happ
 obtain ⟨(m:List Int),xs'',rfl,h2'⟩:=appF_inv_c (ts:=[]) h2
 obtain ⟨rfl,h3⟩:=appF_inv_n h2'
 have hls':some [Leaf.d .str l,Leaf.d .str m]=some ls:=hls
 injection hls' with hls'
 subst hls'
 obtain ⟨s,e0,e1,e2⟩:=rel_str (hr 0)
 obtain ⟨t,f0,f1,f2⟩:=rel_str (hr 1)
 rw [args_2 hsz,e0,f0]
 have h3:F_internal_stringslite_Index l m=some y:=h3
 obtain ⟨c,rfl⟩:∃ c,m=[c]:=by
  match m,h3 with
  | [],h3=>cases h3
  | [c],_=>exact ⟨c,rfl⟩
  | _::_::_,h3=>cases h3
 have h3:some (idxI l c)=some y:=h3
 have hy:idxI l c=y:=by injection h3
 have htl:=bytes_size f1
 obtain ⟨cb,rfl⟩:=Lib.one_byte t htl
 have hcb:byteI cb=c:=by
  have:[byteI cb]=[c]:=f1
  injection this
 have hid:Lib.indexByte s.data.toList cb=idxI l c:=by
  rw [idx_lib,hcb,<- e1];rfl
 have hin:=idxI_in l c
 have hlen:l.length<=maxLen:=by rw [<-e1];simpa [bytesL] using e2
 have hmx:maxLen=9223372036854775807:=rfl
 refine (Tryd.stringslite_Index_one s cb w).mono ?_
 rintro e w' ⟨rfl,rfl⟩
 refine ⟨[.int .i64 (idxI l c)],[.d (.int .i64) y],by rw [hid];rfl,rfl,rfl,Below.refl _ _,fun i hi=>?_⟩
 match i,hi with
 | 0,_=>
  refine rel_leaf.2 ⟨by rw [<-hy];rfl,?_⟩
  rw [<-hy]
  simp [Lit.wf,IntKind.min,IntKind.max,IntKind.signed,IntKind.bits]
  omega
theorem F_strings_Split_sound {T:Tab} (h_maxlen:has_maxlen T):SoundFn Tryd.prog T 80 F_strings_Split_sig ⟨F_strings_Split⟩:=by
 refine sound_of rfl fun F g O xs ls y tmf w args hT hw hlim hls happ hsz hr=>?_
 obtain ⟨(l:List Int),xs',rfl,h2⟩:=appF_inv_c (ts:=[.str]) happ
 obtain ⟨(m:List Int),xs'',rfl,h2'⟩:=appF_inv_c (ts:=[]) h2
 obtain ⟨rfl,h3⟩:=appF_inv_n h2'
 have hls':some [Leaf.d .str l,Leaf.d .str m]=some ls:=hls
 injection hls' with hls'
 subst hls'
 obtain ⟨s,e0,e1,e2⟩:=rel_str (hr 0)
 obtain ⟨t,f0,f1,f2⟩:=rel_str (hr 1)
 rw [args_2 hsz,e0,f0]
 have h3:F_strings_Split l m=some y:=h3
 obtain ⟨c,rfl⟩:∃ c,m=[c]:=by
  match m,h3 with
  | [],h3=>cases h3
  | [c],_=>exact ⟨c,rfl⟩
  | _::_::_,h3=>cases h3
 have h3:cond (Nat.ble l.length 4000000000) (some (splitI l c)) none=some y:=h3
 have htl:=bytes_size f1
 obtain ⟨cb,rfl⟩:=Lib.one_byte t htl
 have hcb:byteI cb=c:=by
  have:[byteI cb]=[c]:=f1
  injection this
 cases hb:Nat.ble l.length 4000000000 with
 | false=>rw [hb] at h3;cases h3
 | true=>
  rw [hb] at h3
  have hy:splitI l c=y:=by injection h3
  have hle:l.length<=4000000000:=Nat.le_of_ble_eq_true hb
  have hsl:=bytes_size e1
  obtain ⟨mx,hmx⟩:=h_maxlen
  refine (Tryd.strings_Split s ⟨#[cb]⟩ mx w (by omega) (err_cell hT hmx) (Nat.le_refl _)).mono ?_
  rintro e w' ⟨rfl,rfl⟩
  have hmap:(Lib.splitB ⟨#[cb]⟩ 0 (Lib.countB s ⟨#[cb]⟩) s).map bytesL=y:=by rw [splitB_I cb _ s rfl,e1,hcb,hy]
  have hsb:=Lib.splitB_all ⟨#[cb]⟩ (Nat.le_refl _) 0 _ s rfl
  have hyl:List.length (α:=List Int) y=Lib.countB s ⟨#[cb]⟩+1:=by
   rw [<-hmap]
   show ((Lib.splitB ⟨#[cb]⟩ 0 (Lib.countB s ⟨#[cb]⟩) s).map bytesL).length=_
   rw [List.length_map];exact hsb
  have hcn:=Lib.countB_le ⟨#[cb]⟩ (Nat.le_refl _) s.size s (Nat.le_refl _)
  have hbel:Below w.heap.size w (w.alloc (.cells ((Lib.splitB ⟨#[cb]⟩ 0 (Lib.countB s ⟨#[cb]⟩) s).map Value.string).toArray 9)):=(Below.refl _ w).alloc (Nat.le_refl _) _
  have hnew:=heap_alloc_new w (.cells ((Lib.splitB ⟨#[cb]⟩ 0 (Lib.countB s ⟨#[cb]⟩) s).map Value.string).toArray 9)
  generalize hSS:Lib.splitB ⟨#[cb]⟩ 0 (Lib.countB s ⟨#[cb]⟩) s=ss at *
  have hszs:∀ (i:Nat) (x:ByteArray),ss[i]? = some x->bytesL x∈(show List (List Int) from y):=fun i x hi=>by
   rw [<-hmap]
   exact List.mem_map.2 ⟨x,List.mem_of_getElem? hi,rfl⟩
  have hmem:∀ z∈(show List (List Int) from y),z.length<=l.length:=fun z hz=>by
   have h1:=splitI_sum l c
   rw [hy] at h1
   have h2:z.length<=((show List (List Int) from y).map List.length).sum:=mem_sum (List.mem_map.2 ⟨z,hz,rfl⟩)
   have h3:1<=List.length (α:=List Int) y:=by omega
   have h1:((show List (List Int) from y).map List.length).sum+List.length (α:=List Int) y=l.length+1:=h1
   omega
  have hcell:∀ (i:Nat) (x:List Int),(show List (List Int) from y)[i]? = some x -> ∃ s:ByteArray,ss[i]? = some s /\ bytesL s=x:=fun i x hx=>by
   rw [<-hmap,List.getElem?_map] at hx
   obtain ⟨q,h1,h2⟩:=Option.map_eq_some_iff.1 hx
   exact ⟨q,h1,h2⟩
  rw [<-hyl]
  refine own_out (e:=.str) (l:=y) hw hlim hbel (Nat.le_refl _) hnew (Nat.le_refl _) (by rw [hyl];unfold maxLen;omega) ?_ (fun i x hx=>?_) rfl rfl
  ·show (ss.map Value.string).toArray.size=List.length (α:=List Int) y*1
   rw [hyl]
   simp [hsb]
  ·obtain ⟨q,h1,h2⟩:=hcell i x hx
   refine ⟨q,?_,h2,by rw [bytes_size h2];have:=hmem x (List.mem_of_getElem? hx);unfold maxLen;omega⟩
   show ((ss.map Value.string).toArray.toList.drop (i*1)).take 1=_
   rw [List.toList_toArray,Nat.mul_one]
   have hi:i < (ss.map Value.string).length:=by
    rw [List.length_map];exact (List.getElem?_eq_some_iff.1 h1).1
   rw [List.drop_eq_getElem_cons hi,List.take_succ_cons,List.take_zero]
   have:(ss.map Value.string)[i]? = some (.string q):=by rw [List.getElem?_map,h1];rfl
   rw [List.getElem?_eq_getElem hi] at this
   rw [Option.some.inj this]
theorem handed_of_laid_shaped {H:Type} {enc:TypeId×Value->H} {a:Assume} {C:Checked} {os:Os} {f:FuncId} {fn:Func} {s:ChangeSpec} {conds:List PathCond} {apart fresh handsOn again:Bool} {X:World->Array Value->Prop}
  (hX:∀ (w w':World) (args:Array Value),w.heap=w'.heap->X w args->X w' args)
  (own:ownKnob C.prog.godebug=none) (started:os.Started) (noInit:C.prog.inits.idxOf? f=none) (hfn:C.prog.funcs[f]? = some fn)
  (witness:∃ (w:World) (tape:Tape) (i:Input),w.os=os /\ (w.forCall tape i).Shaped C.prog /\ i.vars=[] /\ Input.okWide C.prog (w.forCall tape i) .any w.heap.size f i /\
   ((s.pre enc C.prog fn conds apart (w.forCall tape i).memory i.args /\ X (w.forCall tape i).memory i.args) /\ sizedMet enc C.prog fn (OpenSpec.ofChange s) apart (w.forCall tape i).memory i.args) /\ a.holds C.prog (lone (Frame.enter C.prog f i.args .normal) [] (w.forCall tape i)))
  (contract:∀ (W:World) (base:Nat) (args:Array Value) (ds gs:List (DataW H)) (before:List MemPlace),
   (∀ (j:Nat) t v,fn.params[j]? = some t->args[j]? = some v->Value.okWide C.prog W .any base t v) ->
   DataW.Whole enc C.prog fn.params.toList s.vars apart W args.toList ds gs before->X W args->W.ShapedOpen C.prog ->
   Calls C.prog f args W fun e W'=>∃ v,e=.returned v /\ s.post enc C.prog fn apart fresh handsOn again W args v W') :
  ReturnsInHanded a C os f .any (fun w args=>(s.pre enc C.prog fn conds apart w args /\ X w args) /\ sizedMet enc C.prog fn (OpenSpec.ofChange s) apart w args) (s.post enc C.prog fn apart fresh handsOn again):=by
 refine returnsInHanded_of_calls own started noInit witness ?_
 intro w tape i _ hsh _ hok hpre hholds
 obtain ⟨_,_,_,fn',hfn',_,_,_,_,hval⟩:=hok
 have e:fn'=fn:=Option.some.inj (hfn'.symm.trans hfn)
 subst e
 obtain ⟨⟨⟨ds,gs,before,hw,hc⟩,hx⟩,hz⟩:=hpre
 have hw':=DataW.Whole.of_heap (w':=w.forCall tape i) (by rfl) hw
 refine (contract (w.forCall tape i) w.heap.size i.args ds gs before hval hw' (hX _ _ _ (by rfl) hx) hsh).mono fun e W' ⟨v,he,hp⟩=>?_
 subst he
 exact ChangeSpec.post_blind hp
theorem int_shaped {P:Program} {w:World} {g:Nat} {t:TypeId} {zero:Array Value} {k:IntKind}
  (h:w.ShapedOpen P) (hg:g < P.globals.size)
  (h0:((begin P (fun _ _=>0) default).world.heap[g]?).bind Obj.row? = some (zero,t)) (hz:zero.size=1)
  (hb:P.buildable t=true) (hc:P.cellTypes P.depth t=some [t]) (hu:P.underlying t=some (.int k)) :
  ∃ m,∃ ty fr,w.heap[g]? = some (.cells #[.int k m] ty fr):=by
 obtain ⟨m,hm⟩:=cell_of_shapedOpen_int h hg h0 hz hb hc hu
 obtain ⟨cs,hh,hs,_⟩:=h.1 g zero t hg h0
 rw [cell_at hh] at hm
 obtain ⟨al⟩:=cs
 match al,hs,hm with
 | [v],_,hm=>
  have hm:some v=some (.int k m):=hm
  injection hm with hm
  subst hm
  exact ⟨m,_,_,hh⟩
 | [],hs,_=>rw [hz] at hs;simp at hs
 | _::_::_,hs,_=>rw [hz] at hs;simp at hs

end Go.Proofs.YtifbhefbhlbofaaDoor
namespace Go.Proofs.YtifbhefbhlbofaaDoor
open Pv
set_option linter.unusedVariables false
noncomputable def F_flow_cut (i1:Int):Option (Int):=
 some (minI (maxI i1 (-2147483647)) 2147483647)
def F_flow_cut_sig:Sig:=⟨[.v false [.d (.int .i64)]],[(false,[.d (.int .i64)])],[]⟩
def F_flow_cut_ann:List (Nat×Ann):=[]
noncomputable def F_flow_cut_env:Env:=⟨Tryd.prog,[],[]⟩
theorem F_flow_cut_text:pvFn F_flow_cut_env F_flow_cut_ann Tryd.f61 F_flow_cut_sig=F_flow_cut:=by kernel_rfl
noncomputable def F_flow_Windows (i1:Int) (i2:Int):Option ((Nat×Nat)):=
 (F_flow_cut i1).bind fun i3=>
 (F_flow_cut i2).bind fun i4=>
 some ((foI .f64 i3),(foI .f64 i4))
def F_flow_Windows_sig:Sig:=⟨[.v false [.d (.int .i64)],.v false [.d (.int .i64)]],[(false,[.d (.cpx .f64)])],[]⟩
def F_flow_Windows_ann:List (Nat×Ann):=[]
noncomputable def F_flow_Windows_env:Env:=⟨Tryd.prog,[(61,⟨F_flow_cut_sig,⟨F_flow_cut⟩⟩)],[]⟩
theorem F_flow_Windows_text:pvFn F_flow_Windows_env F_flow_Windows_ann Tryd.f47 F_flow_Windows_sig=F_flow_Windows:=by kernel_rfl
noncomputable def F_flow_part (q1:Nat):Option (Int×Bool):=
 cond (!((fgt .f64 q1 13970166044099084288||feq .f64 q1 13970166044099084288)&&(flt .f64 q1 4746794007244308480||feq .f64 q1 4746794007244308480)))
 (some (0,false))
 ((ftoI .f64 .i64 q1).bind fun i2=>
 (ftoI .f64 .i64 q1).bind fun i3=>
 some (i2,(feq .f64 (foI .f64 i3) q1)))
def F_flow_part_sig:Sig:=⟨[.v false [.d (.flo .f64)]],[(false,[.d (.int .i64)]),(false,[.d .bool])],[]⟩
def F_flow_part_ann:List (Nat×Ann):=[]
noncomputable def F_flow_part_env:Env:=⟨Tryd.prog,[],[]⟩
theorem F_flow_part_text:pvFn F_flow_part_env F_flow_part_ann Tryd.f67 F_flow_part_sig=F_flow_part:=by kernel_rfl
noncomputable def F_flow_parts (z1:(Nat×Nat)):Option (Int×Int×Bool):=
 (F_flow_part z1.1).bind fun x2=>
 (F_flow_part z1.2).bind fun x3=>
 cond ((!x2.2)||(!x3.2))
 (some (0,0,false))
 (some (x2.1,x3.1,true))
def F_flow_parts_sig:Sig:=⟨[.v false [.d (.cpx .f64)]],[(false,[.d (.int .i64)]),(false,[.d (.int .i64)]),(false,[.d .bool])],[]⟩
def F_flow_parts_ann:List (Nat×Ann):=[]
noncomputable def F_flow_parts_env:Env:=⟨Tryd.prog,[(67,⟨F_flow_part_sig,⟨F_flow_part⟩⟩)],[]⟩
theorem F_flow_parts_text:pvFn F_flow_parts_env F_flow_parts_ann Tryd.f59 F_flow_parts_sig=F_flow_parts:=by kernel_rfl
noncomputable def F_flow_Stream (z1:(Nat×Nat)):Option (Int):=
 (F_flow_parts z1).bind fun x2=>
 some x2.1
def F_flow_Stream_sig:Sig:=⟨[.v false [.d (.cpx .f64)]],[(false,[.d (.int .i64)])],[]⟩
def F_flow_Stream_ann:List (Nat×Ann):=[]
noncomputable def F_flow_Stream_env:Env:=⟨Tryd.prog,[(59,⟨F_flow_parts_sig,⟨F_flow_parts⟩⟩)],[]⟩
theorem F_flow_Stream_text:pvFn F_flow_Stream_env F_flow_Stream_ann Tryd.f49 F_flow_Stream_sig=F_flow_Stream:=by kernel_rfl
noncomputable def F_flow_Conn (z1:(Nat×Nat)):Option (Int):=
 (F_flow_parts z1).bind fun x2=>
 some x2.2.1
def F_flow_Conn_sig:Sig:=⟨[.v false [.d (.cpx .f64)]],[(false,[.d (.int .i64)])],[]⟩
def F_flow_Conn_ann:List (Nat×Ann):=[]
noncomputable def F_flow_Conn_env:Env:=⟨Tryd.prog,[(59,⟨F_flow_parts_sig,⟨F_flow_parts⟩⟩)],[]⟩
theorem F_flow_Conn_text:pvFn F_flow_Conn_env F_flow_Conn_ann Tryd.f48 F_flow_Conn_sig=F_flow_Conn:=by kernel_rfl
noncomputable def F_flow_fault (i1:Int) (b2:Bool):Option ((Nat×Nat)×Bool×Bool×Int):=
 some ((0,0),true,b2,i1)
def F_flow_fault_sig:Sig:=⟨[.v false [.d (.int .i64)],.v false [.d .bool]],[(false,[.d (.cpx .f64)]),(true,[.d .bool,.d .bool,.d (.int .i64)])],[]⟩
def F_flow_fault_ann:List (Nat×Ann):=[]
noncomputable def F_flow_fault_env:Env:=⟨Tryd.prog,[],[]⟩
theorem F_flow_fault_text:pvFn F_flow_fault_env F_flow_fault_ann Tryd.f60 F_flow_fault_sig=F_flow_fault:=by kernel_rfl
noncomputable def F_flow_Shift (z1:(Nat×Nat)) (i2:Int):Option ((Nat×Nat)×Bool×Bool×Int):=
 (F_flow_parts z1).bind fun x3=>
 cond (!x3.2.2)
 ((F_flow_fault 1 true).bind fun x4=>
 some (x4.1,x4.2.1,x4.2.2.1,x4.2.2.2))
 ((F_flow_cut i2).bind fun i5=>
 cond (i2 != i5)
 ((F_flow_fault 1 true).bind fun x6=>
 some (x6.1,x6.2.1,x6.2.2.1,x6.2.2.2))
 ((F_flow_Stream z1).bind fun i7=>
 cond (decide ((IntKind.i64.wrap (i7+i2)) > 2147483647))
 ((F_flow_fault 3 true).bind fun x8=>
 some (x8.1,x8.2.1,x8.2.2.1,x8.2.2.2))
 ((F_flow_Stream z1).bind fun i9=>
 (F_flow_Conn z1).bind fun i10=>
 (F_flow_Windows (IntKind.i64.wrap (i9+i2)) i10).bind fun z11=>
 some (z11,false,false,0))))
def F_flow_Shift_sig:Sig:=⟨[.v false [.d (.cpx .f64)],.v false [.d (.int .i64)]],[(false,[.d (.cpx .f64)]),(true,[.d .bool,.d .bool,.d (.int .i64)])],[]⟩
def F_flow_Shift_ann:List (Nat×Ann):=[]
noncomputable def F_flow_Shift_env:Env:=⟨Tryd.prog,[(47,⟨F_flow_Windows_sig,⟨F_flow_Windows⟩⟩),(48,⟨F_flow_Conn_sig,⟨F_flow_Conn⟩⟩),(49,⟨F_flow_Stream_sig,⟨F_flow_Stream⟩⟩),(59,⟨F_flow_parts_sig,⟨F_flow_parts⟩⟩),(60,⟨F_flow_fault_sig,⟨F_flow_fault⟩⟩),(61,⟨F_flow_cut_sig,⟨F_flow_cut⟩⟩)],[]⟩
theorem F_flow_Shift_text:pvFn F_flow_Shift_env F_flow_Shift_ann Tryd.f51 F_flow_Shift_sig=F_flow_Shift:=by kernel_rfl
noncomputable def F_flow_Grant (z1:(Nat×Nat)) (i2:Int) (i3:Int):Option ((Nat×Nat)×Bool×Bool×Int):=
 (F_flow_parts z1).bind fun x4=>
 cond (((((!x4.2.2)||(decide (i2 < 0)))||(decide (i2 > 2147483647)))||(decide (i3 < 0)))||(decide (i3 > 2147483647)))
 ((F_flow_fault 1 true).bind fun x5=>
 some (x5.1,x5.2.1,x5.2.2.1,x5.2.2.2))
 ((fadd .f64 z1.1 (((foI .f64 i2),(foI .f64 i3)).1)).bind fun q6=>
 (fadd .f64 z1.2 (((foI .f64 i2),(foI .f64 i3)).2)).bind fun q7=>
 cond (fgt .f64 q7 4746794007244308480)
 ((F_flow_fault 3 true).bind fun x8=>
 some (x8.1,x8.2.1,x8.2.2.1,x8.2.2.2))
 (cond (fgt .f64 q6 4746794007244308480)
 ((F_flow_fault 3 false).bind fun x9=>
 some (x9.1,x9.2.1,x9.2.2.1,x9.2.2.2))
 (some ((q6,q7),false,false,0))))
def F_flow_Grant_sig:Sig:=⟨[.v false [.d (.cpx .f64)],.v false [.d (.int .i64)],.v false [.d (.int .i64)]],[(false,[.d (.cpx .f64)]),(true,[.d .bool,.d .bool,.d (.int .i64)])],[]⟩
def F_flow_Grant_ann:List (Nat×Ann):=[]
noncomputable def F_flow_Grant_env:Env:=⟨Tryd.prog,[(59,⟨F_flow_parts_sig,⟨F_flow_parts⟩⟩),(60,⟨F_flow_fault_sig,⟨F_flow_fault⟩⟩)],[]⟩
theorem F_flow_Grant_text:pvFn F_flow_Grant_env F_flow_Grant_ann Tryd.f46 F_flow_Grant_sig=F_flow_Grant:=by kernel_rfl
noncomputable def F_flow_May (z1:(Nat×Nat)):Option (Int):=
 (F_flow_Stream z1).bind fun i2=>
 (F_flow_Conn z1).bind fun i3=>
 some (maxI (minI i2 i3) 0)
def F_flow_May_sig:Sig:=⟨[.v false [.d (.cpx .f64)]],[(false,[.d (.int .i64)])],[]⟩
def F_flow_May_ann:List (Nat×Ann):=[]
noncomputable def F_flow_May_env:Env:=⟨Tryd.prog,[(48,⟨F_flow_Conn_sig,⟨F_flow_Conn⟩⟩),(49,⟨F_flow_Stream_sig,⟨F_flow_Stream⟩⟩)],[]⟩
theorem F_flow_May_text:pvFn F_flow_May_env F_flow_May_ann Tryd.f65 F_flow_May_sig=F_flow_May:=by kernel_rfl
noncomputable def F_flow_Spend (z1:(Nat×Nat)) (i2:Int):Option ((Nat×Nat)×Int):=
 (F_flow_parts z1).bind fun x3=>
 cond ((!x3.2.2)||(decide (i2 < 0)))
 (some ((0,0),1))
 ((F_flow_May z1).bind fun i4=>
 cond (decide (i2 > i4))
 (some ((0,0),1))
 ((fsub .f64 z1.1 (((foI .f64 i2),(foI .f64 i2)).1)).bind fun q5=>
 (fsub .f64 z1.2 (((foI .f64 i2),(foI .f64 i2)).2)).bind fun q6=>
 some ((q5,q6),0)))
def F_flow_Spend_sig:Sig:=⟨[.v false [.d (.cpx .f64)],.v false [.d (.int .i64)]],[(false,[.d (.cpx .f64)]),(false,[.d (.int .i64)])],[]⟩
def F_flow_Spend_ann:List (Nat×Ann):=[]
noncomputable def F_flow_Spend_env:Env:=⟨Tryd.prog,[(59,⟨F_flow_parts_sig,⟨F_flow_parts⟩⟩),(65,⟨F_flow_May_sig,⟨F_flow_May⟩⟩)],[]⟩
theorem F_flow_Spend_text:pvFn F_flow_Spend_env F_flow_Spend_ann Tryd.f56 F_flow_Spend_sig=F_flow_Spend:=by kernel_rfl
end Go.Proofs.YtifbhefbhlbofaaDoor
namespace Go.Proofs.YtifbhefbhlbofaaDoor
namespace Pv
set_option linter.unusedVariables false
def AC.handTail (r:Nat) (h:PSt->Option (Bool×PSt)):AC->AC
 | .seq a e=>match a with
  | .seq (.region id ops d) b=>(match Nat.beq id r with
   | true=>.hand (.seq (.seq (.region id ops d) b.erase) e.erase) h
   | false=>.seq (.seq (.region id ops d) b) (e.handTail r h))
  | a=>.seq a (e.handTail r h)
 | c=>c
noncomputable def pvFnTL (r:Nat) (h:PSt->Option (Bool×PSt)) (E:Env) (A:List (Nat×Ann)) (fn:Func) (s:Sig) (xs:List ((t:Ty)×t.D)):Option s.out.D:=
 match fn.body,entrySt s xs with
 | some c,some st=>match annot A c 0 with
  | some (ac0,_)=>match AC.handTail r h ac0 with
   | ac=>match ac.good&&ac.dsts.all (fun d=>Nat.blt d fn.ntmps)&&Nat.ble s.ps.length fn.ntmps&&okPls s.pls&&Nat.ble fn.ntmps 1000000&&Nat.beq fn.results.size s.rs.length&&((List.range s.ps.length).all fun k=>!(isM s.ps k) || !(hasN ac.dsts k)) with
    | true=>pv E ac (fun x s'=>match x with | .normal | .ret=>retF E.P fn.results.toList s s' | _=>none) st
    | false=>none
  | none=>none
 | _,_=>none
noncomputable def pvFnT (r:Nat) (h:PSt->Option (Bool×PSt)) (E:Env) (A:List (Nat×Ann)) (fn:Func) (s:Sig):insT s.ins (Option s.out.D):=curryT _ (pvFnTL r h E A fn s)
end Pv
end Go.Proofs.YtifbhefbhlbofaaDoor
namespace Go.Proofs.YtifbhefbhlbofaaDoor
open Pv
set_option linter.unusedVariables false
abbrev ApW:=Int×Int×Int×Bool×Bool×Bool×Int×Int×Int×List (List (Int×Int))×(Int×Int×Int×Int×Int×Int)×Int×Int×Bool
abbrev ApS:=Option Int×Bool×Bool×Bool×List Int
abbrev ApM:=List (Int×Int)
abbrev apWt:Ty:=.pr (.int .i64) (.pr (.ptr 73) (.pr (.ptr 73) (.pr .bool (.pr .bool (.pr .bool (.pr (.int .i64) (.pr (.mp 51) (.pr (.int .i64) (.pr (.os 63 (.sl (.pr (.int .i64) (.int .i64)))) (.pr (.pr (.int .i64) (.pr (.int .i64) (.pr (.int .i64) (.pr (.int .i64) (.pr (.int .i64) (.int .i64)))))) (.pr (.ptr 78) (.pr (.int .i64) .bool))))))))))))
abbrev apSt:Ty:=.pr .wi (.pr .bool (.pr .bool (.pr .bool (.os 5 (.int .u8)))))
abbrev apMt:Ty:=.sl (.pr (.int .i64) (.ptr 71))
abbrev kW:Nat:=pk 59
abbrev kS:Nat:=pk 71
abbrev kM:Nat:=mk 51
noncomputable def winStep (by_ n:Int):Option (Int×Bool):=
 (F_flow_Windows n 0).bind fun z=>(F_flow_Shift z by_).bind fun x=>(F_flow_Stream x.1).bind fun k=>some (k,x.2.1)
noncomputable def winOk (by_:Int) (S:List ApS) (q:Int×Int):Bool:=match getI S q.2 with
 | some (some n,_)=>(match winStep by_ n with | some _=>true | none=>false)
 | _=>false
noncomputable def winBad (by_:Int) (S:List ApS) (q:Int×Int):Bool:=match getI S q.2 with
 | some (some n,_)=>(match winStep by_ n with | some (_,b)=>b | none=>false)
 | _=>false
def apEs (M:List ApM) (W:List ApW) (p:Int):Option (ApW×ApM):=(getI W p).bind fun w=>(getI M w.2.2.2.2.2.2.2.1).bind fun es=>some (w,es)
noncomputable def apOk (by_ p:Int) (M:List ApM) (W:List ApW) (S:List ApS):Bool:=match apEs M W p with
 | some (w,es)=>es.all (winOk by_ S)&&decide (es.map (·.2)).Nodup
 | none=>false
def setBlind (w:ApW) (b:Bool):ApW:=(w.1,w.2.1,w.2.2.1,w.2.2.2.1,b,w.2.2.2.2.2)
noncomputable def apW (by_ p:Int) (M:List ApM) (W:List ApW) (S:List ApS):List ApW:=match apEs M W p with
 | some (w,es)=>W.set p.toNat (setBlind w (w.2.2.2.2.1||es.any (winBad by_ S)))
 | none=>W
noncomputable def winNew (by_:Int) (bad:Bool) (x:ApS):ApS:=cond bad (none,x.2) (match x.1 with
 | some n=>(match winStep by_ n with | some (k,_)=>(some k,x.2) | none=>x)
 | none=>x)
noncomputable def apS (by_ p:Int) (M:List ApM) (W:List ApW) (S:List ApS):List ApS:=match apEs M W p with
 | some (w,es)=>cond w.2.2.2.2.1 S (S.mapIdx fun j x=>cond (es.any fun q=>eqI q.2 (j:Int)) (winNew by_ (es.any (winBad by_ S)) x) x)
 | none=>S
noncomputable def apObs (L:Nat->Option (Nat×List Leaf)):Option (List ApW×List ApS×List ApM):=match poolL L kW,poolL L kS,poolL L kM with
 | some (true,_,⟨e,l⟩),some (true,_,⟨e',l'⟩),some (_,_,⟨e'',l''⟩)=>match castD (t:=.sl e) (.sl apWt) l,castD (t:=.sl e') (.sl apSt) l',castD (t:=.sl e'') (.sl apMt) l'' with
  | some W,some S,some M=>some (W,S,M)
  | _,_,_=>none
 | _,_,_=>none
noncomputable def apTail (st:PSt):Option (Bool×PSt):=match st.φ 0,st.φ 5 with
  | .w false [.d (.ptr T) p],.w false [.d (.int .i64) by_]=>match Nat.beq T 59 with | false=>none | true=>match poolL st.L kW,poolL st.L kS,poolL st.L kM with
    | some (true,v,⟨e,l⟩),some (true,v',⟨e',l'⟩),some (b,v'',⟨e'',l''⟩)=>match castD (t:=.sl e) (.sl apWt) l,castD (t:=.sl e') (.sl apSt) l',castD (t:=.sl e'') (.sl apMt) l'' with
      | some W, some S, some M => some (apOk by_ p M W S, ⟨fun i => match Nat.beq i 2 with | true => pbool true | false => .dead,
          fun k=>match Nat.beq k kW with | true=>some (0,[.d (.arr (v+1) apWt) (apW by_ p M W S)]) | false=>match Nat.beq k kS with | true=>some (0,[.d (.arr (v'+1) apSt) (apS by_ p M W S)]) | false=>match Nat.beq k kM with | true=>(match st.L kM with | some (_,ls)=>some (0,ls) | none=>none) | false=>none,
          fun t=>tokEq t .zero,[],[],[]⟩)
      | _,_,_=>none
    | _,_,_=>none
  | _,_=>none
end Go.Proofs.YtifbhefbhlbofaaDoor
