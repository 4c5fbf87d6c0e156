/- Texts of this claim, one behind the other. -/
import Derived.Test.YtgfmfgombmpodaaGreatDoorConfPrintsM2
import Derived.Deep.LoopGhost
import Derived.Below
import Derived.WideShapes
import Derived.ChangeShapes
import Derived.ChangeAt
import Derived.RowKit
import Derived.Deep.Slices
import Derived.WalkKit
import Derived.ProofKit
import Derived.ShutString
import Derived.Lib.LaidTab
import Derived.LaidSub
import Derived.MakeChecks
import Derived.Sort.Grow
import Derived.Deep.Draws
import Derived.OwnWalk
import Derived.KernelRfl
import Derived.Test.YtgfmfgombmpodaaGreatDoorProg
import Derived.Shelf.Strings.Builder1
import Derived.Shelf.Strings.Builder2
import Derived.Shelf.Strings.OnBuilder
import Derived.Shelf.Small.Wraps
import Derived.Shelf.Strings.BuilderF
import Derived.Shelf.Strings.BuilderK
import Derived.Shelf.Strings.Builder2Cap
import Derived.Shelf.Strconv.Atoi
import Derived.Shelf.Strconv.Itoa0
import Derived.Shelf.Strconv.Itoa1
import Derived.Shelf.LaysM
import Derived.Shelf.Strconv.Itoa2
import Derived.Shelf.Strconv.Itoa3
import Derived.Shelf.Strconv.AtoiErrFast
import Derived.Shelf.Strconv.ParseIntEmpty
import Derived.Shelf.Strconv.AtoiFail
import Derived.Shelf.Strconv.Clone
import Derived.Shelf.Strconv.SyntaxError
import Derived.Shelf.LaysC
import Derived.Shelf.Strconv.ToError
import Derived.Shelf.Strconv.Lower
import Derived.Shelf.Strconv.ParseUint10
import Derived.Shelf.Strconv.ParseUint10Empty
import Derived.Shelf.Strconv.ParseUint10Any
import Derived.Shelf.Strconv.ParseInt10
import Derived.Shelf.Strconv.AtoiLong
import Derived.Shelf.Strconv.AtoiInnerAll
import Derived.Shelf.Strconv.RangeError
import Derived.Shelf.Strconv.ToErrorRange
import Derived.Shelf.Strconv.AtoiAll
import Derived.Shelf.Strings.Search1
import Derived.Shelf.Strings.Search2
import Derived.Shelf.Strings.Search3
import Derived.Shelf.Strings.Cut
import Derived.Shelf.Strings.Count
import Derived.Shelf.Strings.Shaped
import Derived.Shelf.GgClosure.StringsIndexFunc
import Derived.Shelf.GgClosure.StringsIndexFuncTop
import Derived.Shelf.Strings.Prefix
import Derived.Shelf.Strings.Split
import Derived.Shelf.Strings.SplitShaped
import Derived.Shelf.Bits.Mul64
import Derived.Shelf.Unicode.DecodeSlow
import Derived.Shelf.Unicode.DecodeAny
import Derived.Shelf.Strings.FuncGrows
import Derived.Shelf.Strings.BuilderCap
import Derived.Shelf.Bytes.SlSearch0
import Derived.Shelf.Bytes.SlClone
import Derived.Shelf.Bytes.SlEqualAll
import Derived.Shelf.Bytes.Small
import Derived.Lib.SplitLaws
import Derived.Lib.AtoiAllCases
import Derived.HandedShaped
import Derived.LaidLaws
import Derived.Shelf.Vars
import Derived.Handed
import Derived.LoopTactic
import Derived.Handy
import Derived.RegionTactic
import Derived.Carry
import Derived.MapKept
import Derived.Maps.AppendAt
import Derived.Deep.RegionLaw
import Derived.Lib.ItoaLen
import Derived.BigCall
import Derived.Shelf.Spec.SlicesInsertGrow
import Derived.Lib.Bytealg
import Derived.Lib.IndexLaws
import Derived.Laws.Bits
import Derived.Laws.RangeString
import Derived.Laws.RangeAny
import Derived.Lib.IndexBytes
import Ieee.Arith
import GoSem.Core.Float
import Derived.Deep.RegionWith
import Derived.BigRegion
import Derived.Lib.Builder
import Derived.Laws.ResultCell
set_option maxRecDepth 100000
namespace Go.Proofs.YtgfmfgombmpodaaGreatDoor
namespace Pv
set_option linter.unusedVariables false
section
variable {E : Env} {F : Fr} {R : Type} {r : R} {ops : Array Oper} {g : Gh} {w : World} {tmf : Nat -> Value}
theorem MRel.drew {st:PSt} (h:MRel F g st tmf w):MRel F g st tmf { w with drawn:=w.drawn+1 }:=by
 have G:Gw w g.C { w with drawn:=w.drawn+1 } g.C:=fun a u hc hC=>⟨hc,hC⟩
 have K:∀ b,Kp g w g { w with drawn:=w.drawn+1 } b:=fun b=>⟨rfl,fun _=>Iff.rfl⟩
 have Lv:∀ k,Lives g w st.O g { w with drawn:=w.drawn+1 } st.O k:=fun k hk=>⟨hk,rfl,fun b _=>K b⟩
 exact ⟨⟨h.fr.size,h.fr.os,h.fr.tape,h.fr.output,h.fr.old,h.fr.shape,h.fr.com,h.fr.mono,h.fr.lim⟩,fun i=>(h.slots i).gw G (fun k _=>Lv k) (fun _ _=>rfl) (fun _ _ _ _ _=>rfl),fun k σ ls hL=>(h.locals k σ ls hL).gw (st:=st) G (fun k _ _ _ _=>Lv k) (K _),
  h.hist,h.kn,h.sp,h.fresh,h.locL,h.blk0,h.blkI,h.blkL,h.blkS,h.blkW,h.ρI⟩
theorem MRel.relike {s X:PSt} (h:MRel F g s tmf w) (hφ:s.φ=X.φ) (hL:s.L=X.L) (hO:s.O=X.O) (hf:∀ x,hasN X.fr x=true->hasN s.fr x=true) (hs:∀ i t want ag ls,X.φ i=.spec t want ag ls->hasN X.sp t=true) (hk:∀ t b,knows X.kn t=some b->tmf t=.bool b):MRel F g X tmf w:=by
 obtain ⟨φ,L,O,kn,sp,fr⟩:=X
 cases hφ;cases hL;cases hO
 exact ⟨h.fr,h.slots,h.locals,h.hist,hk,hs,fun d hd=>h.fresh d (hf d hd),h.locL,h.blk0,h.blkI,h.blkL,h.blkS,h.blkW,h.ρI⟩
theorem facts {A:Nat->Prop} {X:PSt} {φ:Nat->PV} {kn:List (Nat×Bool)} (hM:∀ i,RelP F g w X.O tmf (tmf i) (X.φ i)) (hφ:∀ t,A t->X.φ t=φ t) (hcl:∀ t,A t -> ∀ j w ag ls,φ t=.spec j w ag ls->A j) (hk:KnOK φ kn):∀ t b,A t->knows kn t=some b->tmf t=.bool b:=by
 induction hk with
 | nil=>intro t b _ h;cases h
 | @cons t0 b0 kn h0 hj ih=>
  intro t b ht h
  unfold knows at h
  split at h
  ·rename_i e
   have e:=Nat.eq_of_beq_eq_true e
   subst e
   injection h with h
   subst h
   have h1:=hM t0
   rw [hφ t0 ht] at h1
   rcases hj with hj | ⟨t',w',hj,hk'⟩
   ·rw [hj] at h1
    exact rel_bool h1
   ·have h2:=ih t' w' (hcl t0 ht _ _ _ _ hj) hk'
    rw [hj] at h1
    obtain ⟨b',g1,g2,g3⟩:=h1
    rw [h2] at g1
    have e:b'=w':=by injection g1 with g1;exact g1.symm
    exact rel_bool (tmf:=tmf) (g2 e)
  ·exact ih t b ht h
theorem like_refl (a:PSt):Like a a:=⟨rfl,rfl,rfl,fun _=>rfl⟩
theorem Like.trans {a b c:PSt} (h:Like a b) (k:Like b c):Like a c:=⟨h.1.trans k.1,h.2.1.trans k.2.1,h.2.2.1.trans k.2.2.1,fun x=>(h.2.2.2 x).trans (k.2.2.2 x)⟩
theorem fold_like {S S':Nat->Bool} {l:List Oper} {rs:List Rec} {k:Nat} {X X':PSt} (h:Like X X') (hS:∀ i,i < l.length->S (k+i)=S' (k+i)):Like (fold S l rs k X) (fold S' l rs k X'):=by
 have hS':∀ i (o:Oper) (rc:Rec),l[i]? = some o->rs[i]? = some rc -> ∀ T:Prop,S (k+i)=S' (k+i) \/ ¬ T:=fun i o rc h1 _ _=>.inl (hS i (List.getElem?_eq_some_iff.1 h1).1)
 exact ⟨funext fun t=>fold_agree (view_φ t) l rs k X X' (by rw [h.1]) fun i o rc h1 h2=>hS' i o rc h1 h2 _,funext fun t=>fold_agree (view_L t) l rs k X X' (by rw [h.2.1]) fun i o rc h1 h2=>hS' i o rc h1 h2 _,
  funext fun t=>fold_agree (view_O t) l rs k X X' (by rw [h.2.2.1]) fun i o rc h1 h2=>hS' i o rc h1 h2 _,fun x=>fold_agree (view_fr x) l rs k X X' (h.2.2.2 x) fun i o rc h1 h2=>hS' i o rc h1 h2 _⟩
theorem fold_none {S:Nat->Bool}:∀ (l:List Oper) (rs:List Rec) (k:Nat) (X:PSt),(∀ i,k<=i->S i=false)->fold S l rs k X=X
 | [],_,_,_,_=>rfl
 | _::_,[],_,_,_=>rfl
 | o::l,rc::rs,k,X,h=>by
  unfold fold
  rw [h k (Nat.le_refl k)]
  exact fold_none l rs (k+1) X fun i hi=>h i (by omega)
theorem Run.at {l:List Oper} {st s:PSt} {rs:List Rec} (h:Run E ops l st rs s):∀ (k j:Nat) (o:Oper),l[j]? = some o -> ∃ rc sj sj',rs[j]? = some rc /\ pvStep E ops o sj (fun rc s=>some (rc,s))=some (rc,sj') /\ Like sj (fold (fun i=>decide (i < k+j)) l rs k st) /\ (KnOK st.φ st.kn->KnOK sj.φ sj.kn):=by
 induction h with
 | nil=>intro k j o h;simp at h
 | @cons o l st rc s1 rs s2 h1 h2 ih=>
  intro k j o' hj
  cases j with
  | zero=>
   cases hj
   refine ⟨rc,st,s1,rfl,h1,?_,fun h=>h⟩
   rw [fold_none _ _ _ _ fun i hi=>by simp;omega]
   exact like_refl st
  | succ j=>
   obtain ⟨rc',sj,sj',g1,g2,g3,g4⟩:=ih (k+1) j o' hj
   have hok:=pvStep_ok h1
   refine ⟨rc',sj,sj',g1,g2,g3.trans ?_,fun h=>g4 (hok.kn h)⟩
   have e:fold (fun i=>decide (i < k+(j+1))) (o::l) (rc::rs) k st=fold (fun i=>decide (i < k+(j+1))) l rs (k+1) (appR o.dst rc st):=by
    show fold _ l rs (k+1) (cond (decide (k < k+(j+1))) (appR o.dst rc st) st)=_
    rw [decide_eq_true (by omega)];rfl
   rw [e]
   exact fold_like hok.like fun i _=>by congr 1;simp;omega
theorem Run.last {l:List Oper} {st s:PSt} {rs:List Rec} (h:Run E ops l st rs s):∀ k:Nat,Like s (fold (fun _=>true) l rs k st) /\ (KnOK st.φ st.kn->KnOK s.φ s.kn) /\ ((∀ i t want ag ls,st.φ i=.spec t want ag ls->hasN st.sp t=true) -> ∀ i t want ag ls,s.φ i=.spec t want ag ls->hasN s.sp t=true):=by
 induction h with
 | nil=>exact fun k=>⟨like_refl _,fun h=>h,fun h=>h⟩
 | @cons o l st rc s1 rs s2 h1 h2 ih=>
  intro k
  obtain ⟨g1,g2,g3⟩:=ih (k+1)
  have hok:=pvStep_ok h1
  refine ⟨g1.trans (fold_like hok.like fun _ _=>rfl),fun h=>g2 (hok.kn h),fun h=>g3 fun i t want ag ls hs=>?_⟩
  rw [hok.like.1] at hs
  have hs':putP st.φ o.dst rc.val i=.spec t want ag ls:=hs
  by_cases hi:o.dst=some i
  ·rw [hi,putP_at] at hs'
   exact (hok.spec t want ag ls hs').2
  ·rw [putP_ne hi] at hs'
   exact hok.sp t (h i t want ag ls hs')
theorem insN_mem {n i:Nat} {l:List Nat} (h:i∈insN n l):i=n \/ i∈l:=by
 unfold insN at h
 split at h
 ·exact .inr h
 ·exact List.mem_cons.1 h
theorem unionN_mem {i:Nat}:∀ {l l':List Nat},i∈unionN l l'->i∈l \/ i∈l'
 | [],_,h=>.inr h
 | x::r,l',h=>by
  have h':i∈insN x (unionN r l'):=h
  rcases insN_mem h' with e | h'
  ·exact .inl (by simp [e])
  ·rcases unionN_mem h' with h' | h'
   ·exact .inl (by simp [h'])
   ·exact .inr h'
theorem ancs_fold {acc:List (List Nat)} {i:Nat}:∀ {es:List Edge},i∈es.foldr (fun e l=>insN e.on (unionN (acc.getD e.on []) l)) [] -> ∃ e∈es,i=e.on \/ i∈acc.getD e.on []
 | [],h=>by cases h
 | e::es,h=>by
  rw [List.foldr_cons] at h
  rcases insN_mem h with h | h
  ·exact ⟨e,by simp,.inl h⟩
  ·rcases unionN_mem h with h | h
   ·exact ⟨e,by simp,.inr h⟩
   ·obtain ⟨e',h1,h2⟩:=ancs_fold h
    exact ⟨e',by simp [h1],h2⟩
theorem ancs_old:∀ (l:List Oper) (acc:List (List Nat)) (j:Nat),j < acc.length->(ancs l acc).getD j []=acc.getD j []
 | [],_,_,_=>rfl
 | o::l,acc,j,h=>by
  unfold ancs
  rw [ancs_old l _ j (by simp;omega)]
  simp [List.getD_eq_getElem?_getD,List.getElem?_append_left h]
theorem ancs_get:∀ (l:List Oper) (acc:List (List Nat)) (n:Nat) (o:Oper),l[n]? = some o -> ∀ i,i∈(ancs l acc).getD (acc.length+n) [] -> ∃ e∈o.after.toList,Region.binds .any e=true /\ (i=e.on \/ (e.on < acc.length+n /\ i∈(ancs l acc).getD e.on []))
  | [],_,_,_,h,_,_=>by simp at h
  | o::l,acc,0,o',h,i,hi=>by
    cases h
    unfold ancs at hi ⊢
    rw [ancs_old l _ _ (by simp)] at hi
    have hi':i∈(o.after.toList.filter (Region.binds .any)).foldr (fun e l=>insN e.on (unionN (acc.getD e.on []) l)) []:=by simpa [List.getD_eq_getElem?_getD] using hi
    obtain ⟨e,h1,h2⟩:=ancs_fold hi'
    obtain ⟨h1,h3⟩:=List.mem_filter.1 h1
    refine ⟨e,h1,h3,?_⟩
    rcases h2 with h2 | h2
    · exact .inl h2
    · have hlt : e.on < acc.length := by
        by_cases hlt:e.on < acc.length
        · exact hlt
        · simp [List.getD_eq_getElem?_getD,List.getElem?_eq_none (show acc.length<=e.on by omega)] at h2
      refine .inr ⟨hlt,?_⟩
      rw [ancs_old l _ _ (by simp;omega)]
      simpa [List.getD_eq_getElem?_getD,List.getElem?_append_left hlt] using h2
  | o::l,acc,n+1,o',h,i,hi=>by
    unfold ancs at hi ⊢
    have:=ancs_get l (acc++[(o.after.toList.filter (Region.binds .any)).foldr (fun e l=>insN e.on (unionN (acc.getD e.on []) l)) []]) n o' h i (by rw [List.length_append,List.length_singleton,Nat.add_assoc,Nat.add_comm 1 n];exact hi)
    rw [List.length_append,List.length_singleton,Nat.add_assoc,Nat.add_comm 1 n] at this
    exact this
theorem waits_in {S:Nat->Bool} (hc:∀ j o,ops[j]? = some o->S j=true -> ∀ e∈o.after.toList,Region.binds .any e=true->S e.on=true):∀ (n j:Nat),j < n -> ∀ o,ops[j]? = some o->(∀ e∈o.after.toList,Region.binds .any e=true->S e.on=true) -> ∀ i,waitsN (ancs ops.toList []) j i=true->S i=true
 | 0,j,hn,_,_,_,_,_=>by omega
 | n+1,j,hn,o,ho,hr,i,hw=>by
  have hi:i∈(ancs ops.toList []).getD (([]:List (List Nat)).length+j) []:=by
   rw [List.length_nil,Nat.zero_add];exact hasN_iff.1 hw
  obtain ⟨e,h1,h2,h3⟩:=ancs_get ops.toList [] j o (by simpa using ho) i hi
  rcases h3 with rfl | ⟨h3,h4⟩
  ·exact hr e h1 h2
  ·simp at h3
   have hlt:e.on < ops.size:=by
    have:=(Array.getElem?_eq_some_iff.1 ho).1
    omega
   exact waits_in hc n e.on (by omega) ops[e.on] (by simp [hlt]) (hc e.on ops[e.on] (by simp [hlt]) (hr e h1 h2)) i (hasN_iff.2 h4)
structure Apart (ops:Array Oper) (oi oj:Oper) (ri rj:Rec):Prop where
 looks:∀ d,oi.dst=some d->d ∉ oj.looksAt ops /\ mentP d rj.val=false /\ ∀ p∈rj.loc,mentLs d p.2=false
 back:∀ d,oj.dst=some d->d ∉ oi.looksAt ops
 keys:∀ k∈ri.keysW,k ∉ rj.keysW /\ k ∉ rj.keysR
 keysB:∀ k∈rj.keysW,k ∉ ri.keysR
 toks:∀ t∈ri.toks,t ∉ rj.toks
structure Chk (ops:Array Oper) (rs:List Rec):Prop where
 self:∀ (j:Nat) (o:Oper),ops[j]? = some o -> ∀ d,o.dst=some d->d ∉ o.looksAt ops
 on:∀ (j:Nat) (o:Oper),ops[j]? = some o -> ∀ e∈o.after.toList,Region.binds .any e=true->e.on < j
 grd:∀ (j:Nat) (o:Oper),ops[j]? = some o -> ∀ i b,o.guard=some (i,b)->waitsN (ancs ops.toList []) j i=true
 dist:∀ (i j:Nat) (oi oj:Oper),ops[i]? = some oi->ops[j]? = some oj->i≠j -> ∀ d,oi.dst=some d->oj.dst≠some d
 apart:∀ (i j:Nat) (oi oj:Oper) (ri rj:Rec),i < j->ops[i]? = some oi->ops[j]? = some oj->rs[i]? = some ri->rs[j]? = some rj->waitsN (ancs ops.toList []) j i=false->Apart ops oi oj ri rj
theorem hasN_not {l:List Nat} {x:Nat} (h:hasN l x=false):x ∉ l:=fun e=>by rw [hasN_iff.2 e] at h;cases h
theorem hasT_not {l:List Tok} {x:Tok} (h:hasT l x=false):x ∉ l:=fun e=>by rw [hasT_iff.2 e] at h;cases h
theorem okDraw_chk {rs:List Rec} (hl:rs.length=ops.size) (h:okDraw ops rs=true):Chk ops rs:=by
 simp only [okDraw,Bool.and_eq_true,List.all_eq_true,List.mem_range] at h
 have one:∀ (j:Nat) (o:Oper),ops[j]? = some o->(match o.dst with | some d=>!(hasN (o.looksAt ops) d) | none=>true)=true /\ (∀ e∈o.after.toList,(!Region.binds .any e||Nat.blt e.on j)=true) /\ (match o.guard with | some (g,_)=>waitsN (ancs ops.toList []) j g | none=>true)=true:=fun j o ho=>by
  have:=(h.2 j (Array.getElem?_eq_some_iff.1 ho).1).1
  unfold okOne at this
  simp only [ho,Bool.and_eq_true,List.all_eq_true] at this
  exact ⟨this.1.1,this.1.2,this.2⟩
 have two:∀ (i j:Nat) (oi oj:Oper) (ri rj:Rec),i < j->ops[i]? = some oi->ops[j]? = some oj->rs[i]? = some ri->rs[j]? = some rj->(match oi.dst,oj.dst with | some d,some d'=>!(Nat.beq d d') | _,_=>true)=true /\ (waitsN (ancs ops.toList []) j i=true \/ Apart ops oi oj ri rj):=fun i j oi oj ri rj hij hi hj hri hrj=>by
  have:=(h.2 j (Array.getElem?_eq_some_iff.1 hj).1).2 i hij
  unfold okTwo at this
  simp only [hi,hj,hri,hrj,Bool.and_eq_true,Bool.or_eq_true,List.all_eq_true,Bool.not_eq_true'] at this
  refine ⟨this.1,this.2.imp (fun h=>h) fun h=>?_⟩
  obtain ⟨⟨⟨⟨h1,h2⟩,h3⟩,h4⟩,h5⟩:=h
  refine ⟨fun d hd=>?_,fun d hd=>?_,fun k hk=>⟨hasN_not (h3 k hk).1,hasN_not (h3 k hk).2⟩,fun k hk=>hasN_not (h4 k hk),fun t ht=>hasT_not (h5 t ht)⟩
  ·rw [hd] at h1
   simp only [Bool.and_eq_true,Bool.not_eq_true',List.all_eq_true] at h1
   exact ⟨hasN_not h1.1.1,h1.1.2,h1.2⟩
  ·rw [hd] at h2
   simp only [Bool.not_eq_true'] at h2
   exact hasN_not h2
 have rget:∀ (j:Nat) (o:Oper),ops[j]? = some o -> ∃ rc,rs[j]? = some rc:=fun j o ho=>⟨rs[j]'(by rw [hl];exact (Array.getElem?_eq_some_iff.1 ho).1),by simp⟩
 refine ⟨fun j o ho d hd=>?_,fun j o ho e he hb=>?_,fun j o ho i b hg=>?_,fun i j oi oj hi hj hij d hd hd'=>?_,fun i j oi oj ri rj hij hi hj hri hrj hw=>?_⟩
 ·have:=(one j o ho).1
  rw [hd] at this
  simp only [Bool.not_eq_true'] at this
  exact hasN_not this
 ·have:=(one j o ho).2.1 e he
  rw [hb] at this
  simpa [Nat.blt_eq] using this
 ·have:=(one j o ho).2.2
  rw [hg] at this
  exact this
 ·obtain ⟨ri,hri⟩:=rget i oi hi
  obtain ⟨rj,hrj⟩:=rget j oj hj
  have key:∀ (i j:Nat) (oi oj:Oper) (ri rj:Rec),i < j->ops[i]? = some oi->ops[j]? = some oj->rs[i]? = some ri->rs[j]? = some rj->oi.dst=some d->oj.dst=some d->False:=fun i j oi oj ri rj hij hi hj hri hrj hd hd'=>by
   have:=(two i j oi oj ri rj hij hi hj hri hrj).1
   rw [hd,hd'] at this
   simp at this
  rcases Nat.lt_or_gt_of_ne hij with hlt | hlt
  ·exact key i j oi oj ri rj hlt hi hj hri hrj hd hd'
  ·exact key j i oj oi rj ri hlt hj hi hrj hri hd' hd
 ·rcases (two i j oi oj ri rj hij hi hj hri hrj).2 with h | h
  ·rw [h] at hw;cases hw
  ·exact h
def spOf (ops:Array Oper) (S:Nat->Bool):List Nat:=(List.range ops.size).filterMap fun i=>match S i with | true=>(ops[i]?).bind (·.dst) | false=>none
theorem mem_spOf {S:Nat->Bool} {t:Nat}:hasN (spOf ops S) t=true ↔ ∃ i o,ops[i]? = some o /\ S i=true /\ o.dst=some t:=by
 rw [hasN_iff]
 unfold spOf
 rw [List.mem_filterMap]
 constructor
 ·rintro ⟨i,h1,h2⟩
  split at h2
  ·rename_i hS
   cases ho:ops[i]? with
   | none=>rw [ho] at h2;cases h2
   | some o=>rw [ho] at h2;exact ⟨i,o,ho,hS,h2⟩
  ·cases h2
 ·rintro ⟨i,o,h1,h2,h3⟩
  refine ⟨i,List.mem_range.2 (Array.getElem?_eq_some_iff.1 h1).1,?_⟩
  rw [h2,h1]
  exact h3
theorem gslot_some {o:Oper} {t:Nat} (h:gslot ops o=some t):∃ i b og,o.guard=some (i,b) /\ ops[i]? = some og /\ og.dst=some t:=by
 unfold gslot at h
 split at h
 ·cases h
 ·rename_i i b hg
  cases ho:ops[i]? with
  | none=>rw [ho] at h;cases h
  | some og=>rw [ho] at h;exact ⟨i,b,og,hg,ho,h⟩
theorem fold_fr {S:Nat->Bool} {x:Nat}:∀ (l:List Oper) (rs:List Rec) (k:Nat) (X:PSt),hasN (fold S l rs k X).fr x=true->hasN X.fr x=true
 | [],_,_,_,h=>h
 | _::_,[],_,_,h=>h
 | o::l,rc::rs,k,X,h=>by
  unfold fold at h
  have:=fold_fr l rs (k+1) _ h
  cases hk:S k with
  | true=>rw [hk] at this;exact (hasN_out.1 this).1
  | false=>rw [hk] at this;exact this
theorem fold_out {S:Nat->Bool} {x:Nat}:∀ (l:List Oper) (rs:List Rec) (k n:Nat) (o:Oper) (rc:Rec) (X:PSt),l[n]? = some o->rs[n]? = some rc->S (k+n)=true->o.dst=some x->hasN (fold S l rs k X).fr x=false
 | [],_,_,_,_,_,_,h,_,_,_=>by simp at h
 | _::_,[],_,_,_,_,_,_,h,_,_=>by simp at h
 | o::l,rc::rs,k,0,o',rc',X,h1,h2,h3,h4=>by
  cases h1
  refine Bool.eq_false_iff.2 fun h=>?_
  unfold fold at h
  have h3:S k=true:=h3
  have:=fold_fr l rs (k+1) _ h
  rw [h3] at this
  exact (hasN_out.1 this).2 h4
 | o::l,rc::rs,k,n+1,o',rc',X,h1,h2,h3,h4=>by
  unfold fold
  exact fold_out l rs (k+1) n o' rc' _ h1 h2 (by rw [<-h3];congr 1;omega) h4
def mkSt (ops:Array Oper) (S:Nat->Bool) (rs:List Rec) (st0:PSt):PSt:=⟨(fold S ops.toList rs 0 st0).φ,(fold S ops.toList rs 0 st0).L,(fold S ops.toList rs 0 st0).O,[],spOf ops S,(fold S ops.toList rs 0 st0).fr⟩
theorem knows_filter {A:Nat->Bool} {kn:List (Nat×Bool)} {t:Nat}:knows (kn.filter fun p=>A p.1) t=match A t with | true=>knows kn t | false=>none:=by
 induction kn with
 | nil=>cases A t <;> rfl
 | cons p r ih=>
  obtain ⟨j,b⟩:=p
  by_cases hj:j=t
  ·subst hj
   cases hA:A j with
   | true=>rw [List.filter_cons_of_pos (by simpa using hA)];simp [knows]
   | false=>rw [List.filter_cons_of_neg (by simp [hA]),ih,hA]
  ·have hb:Nat.beq j t=false:=Bool.eq_false_iff.2 fun e=>hj (Nat.eq_of_beq_eq_true e)
   cases hA:A j with
   | true=>
    rw [List.filter_cons_of_pos (by simpa using hA)]
    simp only [knows,hb]
    exact ih
   | false=>
    rw [List.filter_cons_of_neg (by simp [hA]),ih]
    simp only [knows,hb]
open Classical in
theorem draw_step (hE:E.okF F) {rs:List Rec} {st0 s:PSt} (hrun:Run E ops ops.toList st0 rs s) (hc:Chk ops rs) (hst0:∀ i t want ag ls,st0.φ i≠.spec t want ag ls) (hkn0:st0.kn=[]) {S S':Nat->Bool} {j:Nat} {oj:Oper} {a:Act} (hj:S j=false) (hS':∀ i,S' i=true↔S i=true \/ i=j)
    (hcl:∀ j o,ops[j]? = some o->S j=true -> ∀ e∈o.after.toList,Region.binds .any e=true->S e.on=true) (hoj:ops[j]? = some oj) (hready:∀ e∈oj.after.toList,Region.binds .any e=true->S e.on=true) (hd:∀ x,oj.dst=some x->x < F.n)
    (h:AR F g (mkSt ops S rs st0) a w) {N:Act->World->Prop} {Q:Exit->Act->World->Prop} (hN:∀ a' w' g',AR F g' (mkSt ops S' rs st0) a' w'->Fr1 oj.dst g a w g' a' w'->N a' w'):Way E ops oj a w N Q:=by
  obtain ⟨rc,sj,sj',hrc,hstep,hlike,hknok⟩:=hrun.at 0 j oj (by simpa using hoj)
  simp only [Nat.zero_add] at hlike
  have hok:=pvStep_ok hstep
  have hdone:∀ i,waitsN (ancs ops.toList []) j i=true->S i=true:=waits_in hcl (j+1) j (by omega) oj hoj hready
  have hnot:∀ i o,ops[i]? = some o->S i=true->waitsN (ancs ops.toList []) i j=false:=fun i o ho hi=>Bool.eq_false_iff.2 fun e=>by
    have:=waits_in hcl (i+1) i (by omega) o ho (hcl i o ho hi) j e
    rw [hj] at this;cases this
  have hcmp:∀ i oi ri,ops[i]? = some oi->rs[i]? = some ri->S i≠decide (i < j)->(i < j /\ S i=false /\ Apart ops oi oj ri rc) \/ (j < i /\ S i=true /\ Apart ops oj oi rc ri):=fun i oi ri hoi hri hne=>by
    rcases Nat.lt_trichotomy i j with hlt | heq | hgt
    · rw [decide_eq_true hlt] at hne
      have hSi:S i=false:=by simpa using hne
      exact .inl ⟨hlt,hSi,hc.apart i j oi oj ri rc hlt hoi hoj hri hrc (Bool.eq_false_iff.2 fun e=>hne (hdone i e))⟩
    · subst heq
      rw [hj] at hne;simp at hne
    · rw [decide_eq_false (by omega)] at hne
      have hSi:S i=true:=by simpa using hne
      exact .inr ⟨hgt,hSi,hc.apart j i oj oi rc ri hgt hoj hoi hrc hri (hnot i oi hoi hSi)⟩
  have hφS:∀ t,(∀ i oi,ops[i]? = some oi->oi.dst=some t->S i=decide (i < j))->(fold S ops.toList rs 0 st0).φ t=sj.φ t:=fun t ht=>by
    rw [hlike.1]
    refine fold_agree (view_φ t) ops.toList rs 0 _ _ rfl fun i o ri h1 h2=>?_
    rw [Nat.zero_add]
    by_cases e:o.dst=some t
    · exact .inl (ht i o (by simpa using h1) e)
    · exact .inr e
  have hLS:∀ k,k∈rc.keysR \/ k∈rc.keysW->(fold S ops.toList rs 0 st0).L k=sj.L k:=fun k hk=>by
    rw [hlike.2.1]
    refine fold_agree (view_L k) ops.toList rs 0 _ _ rfl fun i o ri h1 h2=>?_
    rw [Nat.zero_add]
    by_cases e:S i=decide (i < j)
    · exact .inl e
    · refine .inr fun hkw=>?_
      rcases hcmp i o ri (by simpa using h1) h2 e with ⟨_,_,ha⟩ | ⟨_,_,ha⟩
      · have:=ha.keys k hkw
        rcases hk with hk | hk
        · exact this.2 hk
        · exact this.1 hk
      · rcases hk with hk | hk
        · exact ha.keysB k hkw hk
        · exact (ha.keys k hk).1 hkw
  have hrec:∀ (i:Nat) (o:Oper) (ri:Rec),ops[i]? = some o->rs[i]? = some ri->Tok.zero ∉ ri.born /\ Tok.zero ∉ ri.gone:=fun i o ri h1 h2=>by
    obtain ⟨ri',si,si',g1,g2,_,_⟩:=hrun.at 0 i o (by simpa using h1)
    rw [h2] at g1;cases g1
    have:=pvStep_ok g2
    exact ⟨fun e=>(by obtain ⟨x,j,e',_⟩:=this.born _ e;cases e'),fun e=>this.gone _ e rfl⟩
  have hOS:∀ t,t=.zero \/ t∈rc.toks->(fold S ops.toList rs 0 st0).O t=sj.O t:=fun t ht=>by
    rw [hlike.2.2.1]
    refine fold_agree (view_O t) ops.toList rs 0 _ _ rfl fun i o ri h1 h2=>?_
    rw [Nat.zero_add]
    by_cases e:S i=decide (i < j)
    · exact .inl e
    · refine .inr fun hbg=>?_
      rcases ht with rfl | ht
      · have:=hrec i o ri (by simpa using h1) h2
        rcases hbg with hbg | hbg
        · exact this.1 hbg
        · exact this.2 hbg
      · have hm : t ∈ ri.toks := by
          unfold Rec.toks
          rcases hbg with hbg | hbg <;> simp [hbg]
        rcases hcmp i o ri (by simpa using h1) h2 e with ⟨_,_,ha⟩ | ⟨_,_,ha⟩
        · exact ha.toks t hm ht
        · exact ha.toks t ht hm
  have hfrS:∀ x,(∀ i oi,ops[i]? = some oi->oi.dst=some x->S i=decide (i < j))->hasN (fold S ops.toList rs 0 st0).fr x=hasN sj.fr x:=fun x hx=>by
    rw [hlike.2.2.2]
    refine fold_agree (view_fr x) ops.toList rs 0 _ _ rfl fun i o ri h1 h2=>?_
    rw [Nat.zero_add]
    by_cases e:o.dst=some x
    · exact .inl (hx i o (by simpa using h1) e)
    · exact .inr e
  have hself:∀ x,oj.dst=some x -> ∀ i oi,ops[i]? = some oi->oi.dst=some x->S i=decide (i < j):=fun x hx i oi hoi hdi=>by
    have e:i=j:=by
      by_cases e:i=j
      · exact e
      · exact (hc.dist i j oi oj hoi hoj e x hdi hx).elim
    subst e
    rw [hj];simp
  let A:Nat->Prop:=fun t=>(∀ i oi,ops[i]? = some oi->oi.dst=some t->S i=decide (i < j)) /\ oj.dst≠some t
  have hAcl:∀ t,A t -> ∀ j' w ag ls,sj.φ t=.spec j' w ag ls->A j':=fun t ht j' want ag ls hs=>by
    rw [hlike.1] at hs
    by_cases hex:∃ i oi,ops[i]? = some oi /\ oi.dst=some t /\ i < j
    · obtain ⟨i,oi,hoi,hdi,hij⟩:=hex
      obtain ⟨ri,si,si',g1,g2,g3,_⟩:=hrun.at 0 i oi (by simpa using hoi)
      have hoki:=pvStep_ok g2
      have e:(fold (fun i=>decide (i < j)) ops.toList rs 0 st0).φ t=ri.val:=by
        have:=fold_add (view_φ t) (S:=fun k=>decide (k < j)&&decide (k≠i)) (S':=fun k=>decide (k < j)) (j:=i) (oj:=oi) (rj:=ri) (by simp) (by simpa using hij) (fun k hk=>by simp [hk]) ops.toList rs 0 i st0 (by omega) (by simpa using hoi) g1 (fun _ k ok rk hk h1 h2 h3 h4=>hc.dist i k oi ok hoi (by simpa using h1) (by omega) t hdi h4)
        rw [this]
        show putP _ oi.dst ri.val t=_
        rw [hdi,putP_at]
      rw [e] at hs
      obtain ⟨hgs,_⟩:=hoki.spec j' want ag ls hs
      obtain ⟨i0,b0,og,q1,q2,q3⟩:=gslot_some hgs
      have hSi:S i=true:=by rw [ht.1 i oi hoi hdi];simpa using hij
      have hw0:=hc.grd i oi hoi i0 b0 q1
      have hS0:S i0=true:=waits_in hcl (i+1) i (by omega) oi hoi (hcl i oi hoi hSi) i0 hw0
      have hi0:i0 < i:=by
        refine waits_in (S:=fun k=>decide (k < i)) (fun k ok hk1 hk2 e he1 he2=>?_) (i+1) i (by omega) oi hoi (fun e he1 he2=>?_) i0 hw0 |> fun h=>by simpa using h
        · have:=hc.on k ok hk1 e he1 he2
          simp at hk2 ⊢;omega
        · have:=hc.on i oi hoi e he1 he2
          simpa using this
      refine ⟨fun k ok hok hdk=>?_,fun e=>?_⟩
      · have : k = i0 := by
          by_cases e:k=i0
          · exact e
          · exact (hc.dist k i0 ok og hok q2 e j' hdk q3).elim
        subst this
        rw [hS0,decide_eq_true (by omega)]
      · exact hc.dist i0 j og oj q2 hoj (by omega) j' q3 e
    · exfalso
      have e:(fold (fun i=>decide (i < j)) ops.toList rs 0 st0).φ t=st0.φ t:=fold_keep (view_φ t) ops.toList rs 0 st0 fun i o ri h1 h2 h3 h4=>hex ⟨i,o,by simpa using h1,h4,by simpa using h3⟩
      rw [e] at hs
      exact hst0 t j' want ag ls hs
  have hlooks:∀ t,t∈oj.looksAt ops->A t:=fun t ht=>by
    refine ⟨fun i oi hoi hdi=>?_,fun e=>hc.self j oj hoj t e ht⟩
    by_cases e:S i=decide (i < j)
    · exact e
    · exfalso
      obtain ⟨ri,si,si',g1,g2,g3,_⟩:=hrun.at 0 i oi (by simpa using hoi)
      rcases hcmp i oi ri hoi g1 e with ⟨_,_,ha⟩ | ⟨_,_,ha⟩
      · exact (ha.looks t hdi).1 ht
      · exact ha.back t hdi ht
  have hmem:∀ t,hasN (spOf ops S) t=true->oj.dst≠some t:=fun t ht e=>by
    obtain ⟨i,o,h1,h2,h3⟩:=mem_spOf.1 ht
    have:=hself t e i o h1 h3
    rw [h2] at this
    have hij:i < j:=by simpa using this.symm
    exact hc.dist i j o oj h1 hoj (by omega) t h3 e
  have hM:MRel F g ⟨(fold S ops.toList rs 0 st0).φ,(fold S ops.toList rs 0 st0).L,(fold S ops.toList rs 0 st0).O,sj.kn.filter (fun p=>decide (A p.1)),spOf ops S,(fold S ops.toList rs 0 st0).fr⟩ (tm a) w:=by
    refine h.rel.knMore (st:=mkSt ops S rs st0) fun t b hk=>?_
    rw [knows_filter (A:=fun t=>decide (A t))] at hk
    split at hk
    · rename_i hA
      exact facts (A:=A) (X:=mkSt ops S rs st0) (φ:=sj.φ) h.rel.slots (fun t ht=>hφS t ht.1) hAcl (hknok (by rw [hkn0];exact .nil)) t b (of_decide_eq_true hA) hk
    · cases hk
  have hF:Foot oj.dst rc sj ⟨(fold S ops.toList rs 0 st0).φ,(fold S ops.toList rs 0 st0).L,(fold S ops.toList rs 0 st0).O,sj.kn.filter (fun p=>decide (A p.1)),spOf ops S,(fold S ops.toList rs 0 st0).fr⟩:=by
    refine ⟨hLS,fun t ht=>hOS t (.inr ?_),hOS _ (.inl rfl),fun x hx=>hfrS x (hself x hx),fun x hx=>Bool.eq_false_iff.2 fun e=>hmem x e hx,fun x hx=>?_⟩
    · unfold Rec.toks
      simp [ht]
    · obtain ⟨hx1,hx2⟩:=hasN_out.1 (hasN_iff.2 hx)
      by_cases hex:∃ i oi,ops[i]? = some oi /\ oi.dst=some x /\ i < j /\ S i=false
      · obtain ⟨i,oi,hoi,hdi,hij,hSi⟩:=hex
        obtain ⟨ri,si,si',g1,g2,g3,_⟩:=hrun.at 0 i oi (by simpa using hoi)
        rcases hcmp i oi ri hoi g1 (by rw [hSi,decide_eq_true hij];simp) with ⟨_,_,ha⟩ | ⟨h1,_,ha⟩
        · exact (ha.looks x hdi).2
        · omega
      · refine hok.ment x (hasN_iff.1 (hasN_out.2 ⟨?_,hx2⟩))
        rw [<-hfrS x fun i oi hoi hdi=>?_]
        · exact hx1
        · rcases Nat.lt_trichotomy i j with hlt | heq | hgt
          · rw [decide_eq_true hlt]
            cases hSi:S i with
            | true=>rfl
            | false=>exact (hex ⟨i,oi,hoi,hdi,hlt,hSi⟩).elim
          · subst heq
            rw [hj];simp
          · rw [decide_eq_false (by omega)]
            cases hSi:S i with
            | false=>rfl
            | true=>
              obtain ⟨ri,si,si',g1,g2,g3,_⟩:=hrun.at 0 i oi (by simpa using hoi)
              have:=fold_out (S:=S) ops.toList rs 0 i oi ri st0 (by simpa using hoi) g1 (by rw [Nat.zero_add];exact hSi) hdi
              rw [show hasN (fold S ops.toList rs 0 st0).fr x=true from hx1] at this
              cases this
  obtain ⟨s',g1,g2,g3⟩:=pvStep_at (A:=A) (X:=⟨(fold S ops.toList rs 0 st0).φ,(fold S ops.toList rs 0 st0).L,(fold S ops.toList rs 0 st0).O,sj.kn.filter (fun p=>decide (A p.1)),spOf ops S,(fold S ops.toList rs 0 st0).fr⟩) ⟨fun t ht=>hφS t ht.1,fun t ht=>by rw [knows_filter (A:=fun t=>decide (A t)),decide_eq_true ht],hAcl⟩ hlooks (fun x hx=>⟨by rw [knows_filter (A:=fun t=>decide (A t)),decide_eq_false fun h=>h.2 hx],fun h=>h.2 hx⟩) hF hstep
  refine pvStep_sound (Q:=Q) hE ⟨h.size,h.defers,hM⟩ hd g1 fun a' w' g' rc' st' hC hAR hl=>?_
  injection hC with hC
  obtain ⟨e1,e2⟩:=Prod.mk.inj hC
  have e1:=e1.symm
  have e2:=e2.symm
  subst e1;subst e2
  refine hN a' w' g' ⟨hAR.size,hAR.defers,?_⟩ hl
  have hj':S' j=true:=(hS' j).2 (.inr rfl)
  have hSS:∀ i,i≠j->S' i=S i:=fun i hi=>by
    rw [Bool.eq_iff_iff,hS']
    exact ⟨fun h=>h.resolve_right hi,.inl⟩
  have hadd:∀ {β:Type} {f:PSt->β} {T:Option Nat->Rec->Prop},View f T->(T oj.dst rc -> ∀ i o ri,j < i->ops[i]? = some o->rs[i]? = some ri->S i=true -> ¬ T o.dst ri)->f (fold S' ops.toList rs 0 st0)=f (appR oj.dst rc (fold S ops.toList rs 0 st0)):=fun hf hT=>
    fold_add hf hj hj' hSS ops.toList rs 0 j st0 (by omega) (by simpa using hoj) hrc fun ht i o ri h1 h2 h3 h4=>hT ht i o ri h1 (by simpa using h2) h3 (by rw [Nat.zero_add] at h4;exact h4)
  have hap:∀ i o ri,j < i->ops[i]? = some o->rs[i]? = some ri->S i=true->Apart ops oj o rc ri:=fun i o ri h1 h2 h3 h4=>hc.apart j i oj o rc ri h1 hoj h2 hrc h3 (hnot i o h2 h4)
  have f1:∀ t,(fold S' ops.toList rs 0 st0).φ t=putP (fold S ops.toList rs 0 st0).φ oj.dst rc.val t:=fun t=>hadd (view_φ t) fun ht i o ri h1 h2 h3 h4 h5=>hc.dist j i oj o hoj h2 (by omega) t ht h5
  have f2:∀ k,(fold S' ops.toList rs 0 st0).L k=putL (fold S ops.toList rs 0 st0).L rc.loc k:=fun k=>hadd (view_L k) fun ht i o ri h1 h2 h3 h4 h5=>((hap i o ri h1 h2 h3 h4).keys k ht).1 h5
  have f3:∀ t,(fold S' ops.toList rs 0 st0).O t=putO (fold S ops.toList rs 0 st0).O rc.born rc.gone t:=fun t=>hadd (view_O t) fun ht i o ri h1 h2 h3 h4 h5=>(hap i o ri h1 h2 h3 h4).toks t (by unfold Rec.toks;rcases ht with ht | ht <;> simp [ht]) (by unfold Rec.toks;rcases h5 with h5 | h5 <;> simp [h5])
  have f4:∀ x,hasN (fold S' ops.toList rs 0 st0).fr x=hasN (outN oj.dst (fold S ops.toList rs 0 st0).fr) x:=fun x=>hadd (view_fr x) fun ht i o ri h1 h2 h3 h4 h5=>hc.dist j i oj o hoj h2 (by omega) x ht h5
  refine hAR.rel.relike (g2.1.trans (funext fun t=>(f1 t).symm)) (g2.2.1.trans (funext fun t=>(f2 t).symm)) (g2.2.2.1.trans (funext fun t=>(f3 t).symm)) (fun x hx=>?_) (fun i t want ag ls hs=>?_) fun t b hk=>by cases hk
  · rw [g2.2.2.2 x]
    have hx':hasN (fold S' ops.toList rs 0 st0).fr x=true:=hx
    rw [f4 x] at hx'
    exact hx'
  · have hs':(fold S' ops.toList rs 0 st0).φ i=.spec t want ag ls:=hs
    rw [f1 i] at hs'
    have hst:s'.φ i=.spec t want ag ls:=by rw [g2.1];exact hs'
    have hsp:=hAR.rel.sp i t want ag ls hst
    show hasN (spOf ops S') t=true
    rcases g3 t hsp with h1 | h1
    · obtain ⟨i,o,q1,q2,q3⟩:=mem_spOf.1 (show hasN (spOf ops S) t=true from h1)
      exact mem_spOf.2 ⟨i,o,q1,(hS' i).2 (.inl q2),q3⟩
    · obtain ⟨i0,b0,og,q1,q2,q3⟩:=gslot_some h1
      exact mem_spOf.2 ⟨i0,og,q2,(hS' i0).2 (.inl (hdone i0 (hc.grd j oj hoj i0 b0 q1))),q3⟩
end
section
variable {E : Env} {F : Fr} {R : Type} {r : R}
section
variable {ops : Array Oper} {listed : Array Bool}
theorem getD_tf (i:Nat) (hi:i < listed.size):listed.getD i true=listed.getD i false:=by
 rw [Array.getD_eq_getD_getElem?,Array.getD_eq_getD_getElem?]
 simp [hi]
theorem ready_mem {i:Nat}:i∈Region.ready .any ops listed↔i < ops.size /\ listed.getD i true=false /\ ∃ o,ops[i]? = some o /\ ∀ e∈o.after.toList,Region.binds .any e=true->listed.getD e.on false=true:=by
 unfold Region.ready
 rw [List.mem_filter,List.mem_range]
 refine and_congr_right fun hi=>?_
 rw [Bool.and_eq_true,Bool.not_eq_true']
 refine and_congr_right fun _=>?_
 have ho:ops[i]? = some ops[i]:=by simp [hi]
 rw [ho]
 rw [Option.map_some,Option.getD_some,<- Array.all_toList,List.all_eq_true]
 constructor
 ·intro h
  refine ⟨_,rfl,fun e he hb=>?_⟩
  have:=h e he
  rw [hb] at this
  simpa using this
 ·rintro ⟨o,h1,h2⟩ e he
  injection h1 with h1
  subst h1
  cases hb:Region.binds .any e with
  | false=>rfl
  | true=>simpa using h2 e he hb
theorem ready_nil {rs:List Rec} (hc:Chk ops rs) (hs:listed.size=ops.size) (h:Region.ready .any ops listed=[]):∀ (n j:Nat),j < n->j < ops.size->listed.getD j false=true
 | 0,_,hn,_=>by omega
 | n+1,j,hn,hj=>by
  cases hl:listed.getD j false with
  | true=>rfl
  | false=>
   exfalso
   have ho:ops[j]? = some ops[j]:=by simp [hj]
   have:j∈Region.ready .any ops listed:=ready_mem.2 ⟨hj,by rw [getD_tf j (by omega)];exact hl,_,ho,fun e he hb=>by
    have hlt:=hc.on j _ ho e he hb
    exact ready_nil hc hs h n e.on (by omega) (by omega)⟩
   rw [h] at this
   cases this
theorem setB_get {i k:Nat} (hi:i < listed.size):(listed.setIfInBounds i true).getD k false=true↔listed.getD k false=true \/ k=i:=by
 rw [Array.getD_eq_getD_getElem?,Array.getD_eq_getD_getElem?,Array.getElem?_setIfInBounds]
 by_cases e:i=k
 ·subst e
  simp [hi]
 ·rw [if_neg e]
  exact ⟨.inl,fun h=>h.resolve_right fun e'=>e e'.symm⟩
end
theorem draw_walk (hE:E.okF F) {ops:Array Oper} {M:Nat->Prop} {g0:Gh} {a0:Act} {w0:World} {Q:Exit->Act->World->Prop} (hd:∀ o∈ops.toList,∀ x,o.dst=some x->x < F.n /\ M x) {rs:List Rec} {st0 s:PSt} (hrun:Run E ops ops.toList st0 rs s) (hc:Chk ops rs) (hst0:∀ i t want ag ls,st0.φ i≠.spec t want ag ls) (hkn0:st0.kn=[])
    (hQ:∀ S a' w' g',(∀ i,i < ops.size->S i=true)->AR F g' (mkSt ops S rs st0) a' w'->Lft M (fun _=>False) g0 a0 w0 g' a' w'->Q .normal a' w'):∀ (fuel:Nat) (U:List Nat) (listed:Array Bool) (g:Gh) (a:Act) (w:World),U.length<=fuel->listed.size=ops.size->(∀ i,i < ops.size->listed.getD i false=false->i∈U) ->
    (∀ j o,ops[j]? = some o->listed.getD j false=true -> ∀ e∈o.after.toList,Region.binds .any e=true->listed.getD e.on false=true)->AR F g (mkSt ops (fun i=>listed.getD i false) rs st0) a w->Lft M (fun _=>False) g0 a0 w0 g a w->wpAny E.P .any ops Q fuel listed a w
  | 0,U,listed,g,a,w,hU,hs,hm,hcl,h,hl=>by
    have hall:∀ i,i < ops.size->listed.getD i false=true:=fun i hi=>by
      cases e:listed.getD i false with
      | true=>rfl
      | false=>
        have:=hm i hi e
        have hU:U=[]:=List.eq_nil_of_length_eq_zero (by omega)
        rw [hU] at this
        cases this
    refine wpAny_done ?_ (hQ _ a w g hall h hl) 0
    refine List.eq_nil_iff_forall_not_mem.2 fun i hi=>?_
    obtain ⟨h1,h2,_⟩:=ready_mem.1 hi
    rw [getD_tf i (by omega),hall i h1] at h2
    cases h2
  | fuel+1,U,listed,g,a,w,hU,hs,hm,hcl,h,hl=>by
    refine ⟨fun hr=>hQ _ a w g (fun i hi=>ready_nil hc hs hr (i+1) i (by omega) hi) h hl,fun i hi=>?_⟩
    obtain ⟨h1,h2,o,ho,h3⟩:=ready_mem.1 hi
    have hS:listed.getD i false=false:=by rw [<-getD_tf i (by omega)];exact h2
    have hmem:o∈ops.toList:=List.mem_of_getElem? (i:=i) (by simpa using ho)
    have hw:Way E ops o a w (wpAny E.P .any ops Q fuel (listed.setIfInBounds i true)) Q:=
      draw_step hE hrun hc hst0 hkn0 (S:=fun i=>listed.getD i false) (S':=fun k=>(listed.setIfInBounds i true).getD k false) (j:=i) hS (fun k=>setB_get (by omega)) hcl ho h3 (fun x hx=>(hd o hmem x hx).1) h fun a' w' g' h' hl'=>by
        refine draw_walk hE hd hrun hc hst0 hkn0 hQ fuel (U.erase i) (listed.setIfInBounds i true) g' a' w' ?_ (by simpa using hs) (fun k hk hk'=>?_) (fun k ok hk hk' e he hb=>?_) h' (hl.trans (hl'.mono (fun x hx=>(hd o hmem x hx).2) fun _ h=>h))
        · have:=List.length_erase_of_mem (hm i h1 hS)
          omega
        · have hne : k ≠ i := fun e => by
            have:=(setB_get (listed:=listed) (i:=i) (k:=k) (by omega)).2 (.inr e)
            rw [this] at hk'
            cases hk'
          refine (List.mem_erase_of_ne hne).2 (hm k hk (Bool.eq_false_iff.2 fun e=>?_))
          have:=(setB_get (listed:=listed) (i:=i) (k:=k) (by omega)).2 (.inl e)
          rw [this] at hk'
          cases hk'
        · refine (setB_get (by omega)).2 (.inl ?_)
          rcases (setB_get (by omega)).1 hk' with h4 | h4
          · exact hcl k ok hk h4 e he hb
          · subst h4
            rw [ho] at hk
            cases hk
            exact h3 e he hb
    unfold wpOp
    rw [ho]
    show if Region.wanted o (yielded ops a.tmps) then _ else _
    unfold Way at hw
    split
    · rename_i hy
      rw [if_pos hy] at hw
      exact .inl hw
    · rename_i hy
      rw [if_neg hy] at hw
      exact hw
theorem draw_sound (hE:E.okF F) {id:Nat} {ops:Array Oper} {M:Nat->Prop} {g:Gh} {st:PSt} {a:Act} {w:World} {K:PSt->Option R} {Q:Exit->Act->World->Prop} (hd:∀ o∈ops.toList,∀ x,o.dst=some x->x < F.n /\ M x)
    (h:AR F g (sanSt (madeBy ops.toList) st) a w) (hv:pvOps E ops ops.toList [] (sanSt (madeBy ops.toList) st) (fun tr s=>match E.P.follows .mixedOrders&&okDraw ops tr with | true=>K s | false=>none)=some r)
    (hQ:∀ a' w' g' st',K st'=some r->AR F g' st' a' w'->Lft M (fun _=>False) g a w g' a' w'->Q .normal a' w'):(Code.region id ops true).wp E.P Q a w:=by
  obtain ⟨rs,s,hC,hrun⟩:=pvOps_run _ _ _ _ hv
  rw [List.nil_append] at hC
  split at hC
  · rename_i hb
    rw [Bool.and_eq_true] at hb
    have hc:=okDraw_chk (by rw [hrun.len];simp) hb.2
    have hst0:∀ i t want ag ls,(sanSt (madeBy ops.toList) st).φ i≠.spec t want ag ls:=fun i t want ag ls e=>by
      have e:sanP (madeBy ops.toList) (st.φ i)=.spec t want ag ls:=e
      unfold sanP at e
      split at e
      · cases e
      · cases e
      · split at e <;> cases e
      · split at e <;> cases e
      · split at e <;> cases e
      · cases e
      · cases e
      · cases e
      · cases e
    refine wp_region_any hb.1 (draw_walk hE (g0:=g) (a0:=a) (w0:=w) hd hrun hc hst0 rfl (fun S a' w' g' hall hAR hl=>?_) ops.size (List.range ops.size) (Array.replicate ops.size false) g a _ (by simp) (by simp) (fun i hi _=>List.mem_range.2 hi) (fun j o ho hj=>?_) ?_ ?_)
    · obtain ⟨g1,g2,g3⟩:=hrun.last 0
      have hlk:Like s (fold S ops.toList rs 0 (sanSt (madeBy ops.toList) st)):=g1.trans (fold_like (like_refl _) fun i hi=>by rw [Nat.zero_add,hall i (by simpa using hi)])
      refine hQ a' w' g' s hC ⟨hAR.size,hAR.defers,?_⟩ hl
      refine hAR.rel.relike (X:=s) hlk.1.symm hlk.2.1.symm hlk.2.2.1.symm (fun x hx=>?_) (g3 fun i t want ag ls hs=>(hst0 i t want ag ls hs).elim) fun t b hk=>?_
      · show hasN (fold S ops.toList rs 0 (sanSt (madeBy ops.toList) st)).fr x=true
        rw [<-hlk.2.2.2 x];exact hx
      · exact facts (A:=fun _=>True) (X:=mkSt ops S rs (sanSt (madeBy ops.toList) st)) (φ:=s.φ) hAR.rel.slots (fun t _=>by rw [hlk.1];rfl) (fun _ _ _ _ _ _ _=>trivial) (g2 .nil) t b trivial hk
    · exfalso
      rw [Array.getD_eq_getD_getElem?] at hj
      by_cases hlt:j < ops.size <;> simp [hlt] at hj
    · have e : fold (fun i => (Array.replicate ops.size false).getD i false) ops.toList rs 0 (sanSt (madeBy ops.toList) st) = sanSt (madeBy ops.toList) st := fold_none _ _ _ _ fun i _ => by
        rw [Array.getD_eq_getD_getElem?]
        by_cases hlt:i < ops.size <;> simp [hlt]
      refine ⟨h.size,h.defers,h.rel.drew.relike (by unfold mkSt;rw [e]) (by unfold mkSt;rw [e]) (by unfold mkSt;rw [e]) (fun x hx=>?_) (fun i t want ag ls hs=>?_) fun t b hk=>by cases hk⟩
      · unfold mkSt at hx
        rw [e] at hx
        exact hx
      · unfold mkSt at hs
        rw [e] at hs
        exact (hst0 i t want ag ls hs).elim
    · exact ⟨fun _ _=>rfl,fun _ _=>rfl,fun a u hc hC=>⟨hc,hC⟩,fun _ _ _ _=>rfl⟩
  · cases hC
end
section
variable {E : Env} {F : Fr} {g g' g1 : Gh} {st st' s : PSt} {a a' : Act} {w w' : World}
def Xt.out:Xt->Exit
 | .normal=>.normal
 | .exit id=>.exit id
 | .ret=>.ret
 | .goto l=>.goto l
theorem stamp_rel {tmf:Nat->Value} (n:Ann) (h:MRel F g st tmf w):∃ g',MRel F g' (stampSt n st) tmf w /\ g'.C=g.C /\ g'.ρ=g.ρ /\ (∀ k σ,σ≠n.id->g'.H k σ=g.H k σ) /\ ∀ k ls,keptL n st k=some (n.id,ls)->g'.H k n.id=ls:=by
  let g':Gh:=⟨g.C,g.blk,g.ρ,fun k σ=>match Nat.beq σ n.id with | true=>(match keptL n st k with | some (_,ls)=>ls | none=>g.H k σ) | false=>g.H k σ⟩
  have hH:∀ k ls,keptL n st k=some (n.id,ls)->g'.H k n.id=ls:=fun k ls hk=>by
    show (match Nat.beq n.id n.id with | true=>(match keptL n st k with | some (_,ls)=>ls | none=>g.H k n.id) | false=>g.H k n.id)=ls
    rw [show Nat.beq n.id n.id=true by simp,hk]
  have Lc:∀ k σ ls,(stampSt n st).L k=some (σ,ls)->(keptL n st k=some (σ,ls) /\ σ=n.id /\ ∃ σ0 l0,st.L k=some (σ0,l0) /\ ls=l0.map unown) \/ (keptL n st k=none /\ st.L k=some (σ,ls)):=fun k σ ls hL=>by
    have hL':(match keptL n st k with | some x=>some x | none=>st.L k)=some (σ,ls):=hL
    split at hL'
    · rename_i x hx
      rw [hL'] at hx
      obtain ⟨e1,_,σ0,l0,e3,e4⟩:=keptL_some hx
      exact .inl ⟨hx,e1,σ0,l0,e3,e4⟩
    · rename_i hx
      exact .inr ⟨hx,hL'⟩
  have Ls:∀ k y,(stampSt n st).L k=some y -> ∃ z,st.L k=some z:=fun k y hy=>by
    rcases Lc k y.1 y.2 hy with ⟨_,_,σ0,l0,h0,_⟩ | ⟨_,h0⟩ <;> exact ⟨_,h0⟩
  refine ⟨g',⟨h.fr,fun i=>?_,fun k σ ls hL=>?_,fun k σ ls hL hσ=>?_,h.kn,h.sp,fun d hd=>?_,fun i k hk=>?_,h.blk0,h.blkI,fun k b j x hk hb hL=>?_,h.blkS,h.blkW,fun j j' x x' hj hj' he=>?_⟩,rfl,rfl,fun k σ hne=>?_,hH⟩
  · exact (h.slots i).gw (g':=g') (Gw.refl w g.C) (fun k _ ho=>⟨ho,rfl,fun b _=>⟨rfl,fun _=>Iff.rfl⟩⟩) (fun _ _=>rfl) (fun _ _ _ _ _=>rfl)
  · have gwl : ∀ ls, LocOk F g w st.O ls (g.ρ k) -> LocOk F g' w st.O ls (g'.ρ k) := fun ls hl => by
      obtain ⟨cur,T,c1,c2,c3,c4⟩:=hl
      exact ⟨cur,T,c1,c2,c3.gw (g':=g') (Gw.refl w g.C) fun k E e x _ ho=>⟨ho,rfl,fun b _=>⟨rfl,fun _=>Iff.rfl⟩⟩,c4⟩
    rcases Lc k σ ls hL with ⟨_,_,σ0,l0,h0,rfl⟩ | ⟨_,h0⟩
    · exact gwl _ (LocOk.less unown_less (h.locals k σ0 l0 h0))
    · exact gwl _ (h.locals k σ ls h0)
  · rcases Lc k σ ls hL with ⟨hk,e,σ0,l0,h0,rfl⟩ | ⟨hk,h0⟩
    · subst e
      exact ⟨hH k _ hk,fun l hl=>by obtain ⟨z,_,rfl⟩:=List.mem_map.1 hl;exact unown_D z⟩
    · obtain ⟨q1,q2⟩:=h.hist k σ ls h0 hσ
      refine ⟨?_,q2⟩
      show (match Nat.beq σ n.id with | true=>(match keptL n st k with | some (_,ls)=>ls | none=>g.H k σ) | false=>g.H k σ)=ls
      rw [hk]
      cases Nat.beq σ n.id <;> exact q1
  · obtain ⟨f1,f2,f3,f4⟩:=h.fresh d hd
    refine ⟨f1,fun k σ ls hL=>?_,f3,?_⟩
    · rcases Lc k σ ls hL with ⟨_,_,σ0,l0,h0,rfl⟩ | ⟨_,h0⟩
      · have hgen : ∀ q : List Leaf, mentLs d (q.map unown) = false := by
          intro q
          induction q with
          | nil=>rfl
          | cons y q ih=>
            show (mentL d (unown y)||mentLs d (q.map unown))=false
            rw [ih]
            cases y <;> rfl
        exact hgen l0
      · exact f2 k σ ls h0
    · show (match keptL n st d with | some x=>some x | none=>st.L d)=none
      have:keptL n st d=none:=by
        unfold keptL
        rw [f4]
        cases hasN n.kept d <;> rfl
      rw [this];exact f4
  · have:=h.locL i k hk
    show (match keptL n st k with | some x=>some x | none=>st.L k).isSome=true
    cases keptL n st k with
    | some x=>rfl
    | none=>exact this
  · obtain ⟨z,hz⟩:=Ls j x hL
    exact h.blkL k b j z hk hb hz
  · obtain ⟨z,hz⟩:=Ls j x hj
    obtain ⟨z',hz'⟩:=Ls j' x' hj'
    exact h.ρI j j' z z' hz hz' he
  · show (match Nat.beq σ n.id with | true=>_ | false=>g.H k σ)=_
    rw [show Nat.beq σ n.id=false from Bool.eq_false_iff.2 fun e=>hne (Nat.eq_of_beq_eq_true e)]
theorem kept_same {n:Ann} {I:Nat->Prop} {M:Nat->Prop} (hid:n.id≠0) (hI:¬ I n.id) (hl:Lft M I g1 a w g' a' w') (h1:∀ k ls,keptL n st k=some (n.id,ls)->g1.H k n.id=ls) (h:MRel F g' s (tm a') w') (hk:keptOk n s=true) :
  ∀ k,k∈n.kept -> ∀ σ0 ls0,st.L k=some (σ0,ls0) -> ∃ σ ls,s.L k=some (σ,ls) /\ ls.map unown=ls0.map unown:=fun k hkm σ0 ls0 h0=>by
 unfold keptOk at hk
 have h2:=List.all_eq_true.1 hk k hkm
 split at h2
 ·rename_i σ ls hL
  have e:σ=n.id:=Nat.eq_of_beq_eq_true h2
  subst e
  obtain ⟨q1,q2⟩:=h.hist k _ ls hL hid
  have hkl:keptL n st k=some (n.id,ls0.map unown):=by
   unfold keptL
   rw [hasN_iff.2 hkm,h0]
  have q3:=h1 k _ hkl
  have q4:=hl.H k n.id hI hid
  refine ⟨_,ls,hL,?_⟩
  rw [map_D (fun l hl=>unown_same hl) q2,<- q1,q4,q3]
 ·cases h2
theorem iter_of_loop {S R:Type} {body:S->Option (R⊕S)} {x:S} {r:R} (h:loopC body x=some r):∃ n,iterC body n x=some r:=by
 unfold loopC at h
 split at h
 ·rename_i hex
  injection h with h
  obtain ⟨n,hn⟩:=hex.choose_spec
  exact ⟨n,by rw [hn,h]⟩
 ·cases h
theorem iter_succ {S R:Type} {body:S->Option (R⊕S)} {k:Nat} {x:S} {r:R} (h:iterC body (k+1) x=some r):body x=some (.inl r) \/ ∃ x2,body x=some (.inr x2) /\ iterC body k x2=some r:=by
 unfold iterC at h
 split at h
 ·cases h
 ·rename_i r' hb
  injection h with h
  exact .inl (by rw [hb,h])
 ·rename_i x2 hb
  exact .inr ⟨x2,hb,h⟩
theorem join_some {S R:Type} {A:Option (R⊕S)} {B:S->Option R} {r:R} (h:joinC A B=some r):A=some (.inl r) \/ ∃ x,A=some (.inr x) /\ B x=some r:=by
 unfold joinC at h
 split at h
 ·cases h
 ·injection h with h;exact .inl (by rw [h])
 ·rename_i x;exact .inr ⟨x,rfl,h⟩
structure LftX (x:Xt) (M I:Nat->Prop) (g:Gh) (a:Act) (w:World) (g':Gh) (a':Act) (w':World):Prop where
 ρ:∀ k,¬ M k->g'.ρ k=g.ρ k
 lft:x≠.ret->Lft M I g a w g' a' w'
theorem Lft.x {M I:Nat->Prop} {x:Xt} (h:Lft M I g a w g' a' w'):LftX x M I g a w g' a' w':=⟨h.ρ,fun _=>h⟩
theorem LftX.mono {M I M' I':Nat->Prop} {x:Xt} (h:LftX x M I g a w g' a' w') (hm:∀ i,M i->M' i) (hi:∀ i,I i->I' i):LftX x M' I' g a w g' a' w':=
 ⟨fun i hn=>h.ρ i fun e=>hn (hm i e),fun e=>(h.lft e).mono hm hi⟩
theorem Lft.transX {M I:Nat->Prop} {x:Xt} {g2:Gh} {a2:Act} {w2:World} (h:Lft M I g a w g' a' w') (k:LftX x M I g' a' w' g2 a2 w2):LftX x M I g a w g2 a2 w2:=
 ⟨fun i hi=>(k.ρ i hi).trans (h.ρ i hi),fun e=>h.trans (k.lft e)⟩
def HandS (P:Program) (F:Fr) (c:Code) (h:PSt->Option (Bool×PSt)):Prop:=
 ∀ (g:Gh) (st st':PSt) (a:Act) (w:World),AR F g st a w->h st=some (true,st')->c.wp P (fun e a' w'=>e=.ret /\ ∃ g',AR F g' st' a' w' /\ g'.ρ=g.ρ) a w
def PostC {R:Type} (F:Fr) (M I:Nat->Prop) (g:Gh) (a:Act) (w:World) (Q:Xt->PSt->Option R) (r:R):Exit->Act->World->Prop:=fun e a' w'=>∃ x st' g',e=x.out /\ Q x st'=some r /\ AR F g' st' a' w' /\ LftX x M I g a w g' a' w'
theorem PostC.mono {R R':Type} {M I M' I':Nat->Prop} {Q:Xt->PSt->Option R} {r:R} {Q':Xt->PSt->Option R'} {r':R'} {g0:Gh} {a0:Act} {w0:World} {e:Exit} (h:PostC F M I g a w Q r e a' w') (hm:∀ i,M i->M' i) (hi:∀ i,I i->I' i) (hf:Lft M' I' g0 a0 w0 g a w)
  (hq:∀ x s,Q x s=some r->Q' x s=some r'):PostC F M' I' g0 a0 w0 Q' r' e a' w':=by
 obtain ⟨x,st',g',he,hQ,hR,hl⟩:=h
 exact ⟨x,st',g',he,hq _ _ hQ,hR,hf.transX (hl.mono hm hi)⟩
theorem wp_scope_ghost {P:Program} {Q:Exit->Act->World->Prop} {a:Act} {w:World} {c:Code} (I:Nat->Nat->Act->World->Prop)
  (first:c.wp P (fun e a' w'=>match e with | .goto l=>(∃ n,I l n a' w' /\ (findLabel c l).isSome=true) \/ (findLabel c l=none /\ Q (.goto l) a' w') | e=>Q e a' w') a w)
  (pass:∀ l n a w rest,findLabel c l=some rest->I l n a w->rest.wp P (fun e a' w'=>match e with | .goto l'=>(∃ n',n' < n /\ I l' n' a' w' /\ (findLabel c l').isSome=true) \/ (findLabel c l'=none /\ Q (.goto l') a' w') | e=>Q e a' w') a w):(Code.scope c).wp P Q a w:=by
 intro b k cs
 have key:∀ n l rest a w,findLabel c l=some rest->I l n a w -> ∃ e a' w',Q e a' w' /\ Arrives P (lone (b.at a (.code rest::.inScope c::k)) cs w) b k cs e a' w':=by
  intro n
  induction n using Nat.strongRecOn with
  | _ n ih=>
   intro l rest a w hf hI
   obtain ⟨e,a₁,w₁,hq,harr⟩:=pass l n a w rest hf hI b (.inScope c::k) cs
   cases e with
   | normal=>exact ⟨.normal,a₁,w₁,hq,Steps.trans harr (.one step_inScope)⟩
   | exit id=>exact ⟨.exit id,a₁,w₁,hq,fun k' hk=>harr k' (by simp [exitTo,hk])⟩
   | goto l'=>
    rcases hq with ⟨n',hlt,hI',hs⟩ | ⟨hn,hq⟩
    ·obtain ⟨rest',hr'⟩:=Option.isSome_iff_exists.1 hs
     obtain ⟨e₂,a₂,w₂,hq₂,harr₂⟩:=ih n' hlt l' rest' a₁ w₁ hr' hI'
     exact ⟨e₂,a₂,w₂,hq₂,.of_steps (harr _ (by simp [gotoIn,hr'])) harr₂⟩
    ·exact ⟨.goto l',a₁,w₁,hq,fun k' hk=>harr k' (by simp [gotoIn,hn,hk])⟩
   | ret=>exact ⟨_,a₁,w₁,hq,harr⟩
   | panic ch=>exact ⟨_,a₁,w₁,hq,harr⟩
   | outgrown=>exact ⟨_,a₁,w₁,hq,harr⟩
 obtain ⟨e,a₁,w₁,hq,harr⟩:=first b (.inScope c::k) cs
 cases e with
 | normal=>exact ⟨.normal,a₁,w₁,hq,.head step_scope (Steps.trans harr (.one step_inScope))⟩
 | exit id=>exact ⟨.exit id,a₁,w₁,hq,fun k' hk=>.head step_scope (harr k' (by simp [exitTo,hk]))⟩
 | goto l'=>
  rcases hq with ⟨n',hI',hs⟩ | ⟨hn,hq⟩
  ·obtain ⟨rest',hr'⟩:=Option.isSome_iff_exists.1 hs
   obtain ⟨e₂,a₂,w₂,hq₂,harr₂⟩:=key n' l' rest' a₁ w₁ hr' hI'
   exact ⟨e₂,a₂,w₂,hq₂,.of_steps (.head step_scope (harr _ (by simp [gotoIn,hr']))) harr₂⟩
  ·exact ⟨.goto l',a₁,w₁,hq,fun k' hk=>.head step_scope (harr k' (by simp [gotoIn,hn,hk]))⟩
 | ret=>exact ⟨_,a₁,w₁,hq,.of_steps (.one step_scope) harr⟩
 | panic ch=>exact ⟨_,a₁,w₁,hq,.of_steps (.one step_scope) harr⟩
 | outgrown=>exact ⟨_,a₁,w₁,hq,.of_steps (.one step_scope) harr⟩
theorem codeLabs_none:∀ {c:Code} {l:Nat},hasN (codeLabs c) l=false->findLabel c l=none:=by
 intro c
 induction c with
 | seq a b iha ihb=>
  intro l h
  have h':¬ l∈codeLabs a++codeLabs b:=fun hm=>by rw [show hasN (codeLabs (.seq a b)) l=true from hasN_iff.2 hm] at h;cases h
  unfold findLabel
  rw [iha (Bool.eq_false_iff.2 fun e=>h' (List.mem_append_left _ (hasN_iff.1 e)))]
  exact ihb (Bool.eq_false_iff.2 fun e=>h' (List.mem_append_right _ (hasN_iff.1 e)))
 | label l'=>
  intro l h
  unfold findLabel
  rw [if_neg]
  intro e
  have:l'=l:=by simpa using e
  rw [this,show hasN (codeLabs (.label l)) l=true from hasN_iff.2 List.mem_cons_self] at h
  cases h
 | _=>intro l h;rfl
theorem codeLabs_some:∀ {c:Code} {l:Nat},hasN (codeLabs c) l=true -> ∃ rest,findLabel c l=some rest:=by
 intro c
 induction c with
 | seq a b iha ihb=>
  intro l h
  unfold findLabel
  cases hf:findLabel a l with
  | some rest=>exact ⟨_,rfl⟩
  | none=>
   rcases List.mem_append.1 (hasN_iff.1 h) with h | h
   ·obtain ⟨rest,hr⟩:=iha (hasN_iff.2 h)
    rw [hr] at hf;cases hf
   ·exact ihb (hasN_iff.2 h)
 | label l'=>
  intro l h
  have:l=l':=by simpa [codeLabs] using hasN_iff.1 h
  subst this
  unfold findLabel
  rw [if_pos (by simp)]
  exact ⟨_,rfl⟩
 | _=>intro l h;cases h
theorem labs_none:∀ {c:AC} {l:Nat},hasN c.labs l=false->findLabel c.erase l=none
 | .seq a b,l,h=>by
  have h':¬ l∈a.labs++b.labs:=fun hm=>by rw [show hasN (AC.seq a b).labs l=true from hasN_iff.2 hm] at h;cases h
  have ha:=labs_none (c:=a) (l:=l) (Bool.eq_false_iff.2 fun e=>h' (List.mem_append_left _ (hasN_iff.1 e)))
  have hb:=labs_none (c:=b) (l:=l) (Bool.eq_false_iff.2 fun e=>h' (List.mem_append_right _ (hasN_iff.1 e)))
  show findLabel (.seq a.erase b.erase) l=none
  unfold findLabel
  rw [ha];exact hb
 | .join n a b,l,h=>by
  have h':¬ l∈a.labs++b.labs:=fun hm=>by rw [show hasN (AC.join n a b).labs l=true from hasN_iff.2 hm] at h;cases h
  have ha:=labs_none (c:=a) (l:=l) (Bool.eq_false_iff.2 fun e=>h' (List.mem_append_left _ (hasN_iff.1 e)))
  have hb:=labs_none (c:=b) (l:=l) (Bool.eq_false_iff.2 fun e=>h' (List.mem_append_right _ (hasN_iff.1 e)))
  show findLabel (.seq a.erase b.erase) l=none
  unfold findLabel
  rw [ha];exact hb
 | .label l',l,h=>by
  show findLabel (.label l') l=none
  unfold findLabel
  rw [if_neg]
  intro e
  have:l'=l:=by simpa using e
  rw [this,show hasN (AC.label l).labs l=true from hasN_iff.2 List.mem_cons_self] at h
  cases h
 | .skip,_,_=>rfl
 | .region _ _ _,_,_=>rfl
 | .cond _ _ _,_,_=>rfl
 | .block _ _,_,_=>rfl
 | .loop _ _,_,_=>rfl
 | .exit _,_,_=>rfl
 | .ret,_,_=>rfl
 | .goto _,_,_=>rfl
 | .scope _ _,_,_=>rfl
 | .hand _ _,_,h=>codeLabs_none h
theorem labs_some:∀ {c:AC} {l:Nat},hasN c.labs l=true -> ∃ rest,findLabel c.erase l=some rest
 | .seq a b,l,h=>by
  show ∃ rest,findLabel (.seq a.erase b.erase) l=some rest
  unfold findLabel
  cases hf:findLabel a.erase l with
  | some rest=>exact ⟨_,rfl⟩
  | none=>
   rcases List.mem_append.1 (hasN_iff.1 h) with h | h
   ·obtain ⟨rest,hr⟩:=labs_some (c:=a) (hasN_iff.2 h)
    rw [hr] at hf;cases hf
   ·exact labs_some (c:=b) (hasN_iff.2 h)
 | .join n a b,l,h=>by
  show ∃ rest,findLabel (.seq a.erase b.erase) l=some rest
  unfold findLabel
  cases hf:findLabel a.erase l with
  | some rest=>exact ⟨_,rfl⟩
  | none=>
   rcases List.mem_append.1 (hasN_iff.1 h) with h | h
   ·obtain ⟨rest,hr⟩:=labs_some (c:=a) (hasN_iff.2 h)
    rw [hr] at hf;cases hf
   ·exact labs_some (c:=b) (hasN_iff.2 h)
 | .label l',l,h=>by
  have:l=l':=by simpa [AC.labs] using hasN_iff.1 h
  subst this
  show ∃ rest,findLabel (.label l) l=some rest
  unfold findLabel
  rw [if_pos (by simp)]
  exact ⟨_,rfl⟩
 | .skip,_,h=>by cases h
 | .region _ _ _,_,h=>by cases h
 | .cond _ _ _,_,h=>by cases h
 | .block _ _,_,h=>by cases h
 | .loop _ _,_,h=>by cases h
 | .exit _,_,h=>by cases h
 | .ret,_,h=>by cases h
 | .goto _,_,h=>by cases h
 | .scope _ _,_,h=>by cases h
 | .hand _ _,_,h=>codeLabs_some h
def PVS (E:Env) (F:Fr) (c:AC):Prop:=∀ {R:Type} (Q:Xt->PSt->Option R) (st:PSt) (r:R) (g:Gh) (a:Act) (w:World),c.good=true->(∀ d∈c.dsts,d < F.n)->AR F g st a w->pv E c Q st=some r ->
  c.erase.wp E.P (PostC F (· ∈ c.dsts) (· ∈ c.ids) g a w Q r) a w
def FRS (E:Env) (F:Fr) (c:AC):Prop:=∀ {R:Type} (l:Nat) (rest:Code) (Q:Xt->PSt->Option R) (st:PSt) (r:R) (g:Gh) (a:Act) (w:World),findLabel c.erase l=some rest->c.labOk=true->c.good=true->(∀ d∈c.dsts,d < F.n)->AR F g st a w->pvFrom E c l Q st=some r ->
  rest.wp E.P (PostC F (· ∈ c.dsts) (· ∈ c.ids) g a w Q r) a w
theorem frs_none {c:AC} (h:∀ l,findLabel c.erase l=none):FRS E F c:=fun l rest Q st r g a w hf=>by rw [h l] at hf;cases hf
theorem pv_both (hE:E.okF F):∀ c:AC,(∀ p∈c.hands,HandS E.P F p.1 p.2)->PVS E F c /\ FRS E F c:=by
  intro c
  induction c with
  | hand c h=>
    intro hh
    refine ⟨?_,?_⟩
    · intro R Q st r g a w _ _ hA hv
      unfold pv at hv
      split at hv
      · rename_i b s hs
        obtain ⟨rfl,hv⟩:=chk_some hv
        refine Code.wp_mono (fun e a' w' hp=>?_) (hh (c,h) List.mem_cons_self g st s a w hA hs)
        obtain ⟨rfl,g',h1,h2⟩:=hp
        exact ⟨.ret,s,g',rfl,hv,h1,fun k _=>by rw [h2],fun e=>(e rfl).elim⟩
      · cases hv
    · intro R l rest Q st r g a w hf hlo hg hd h hv
      unfold pvFrom at hv
      cases hv
  | skip=>
    intro _
    refine ⟨?_,frs_none fun _=>rfl⟩
    intro R Q st r g a w _ _ h hv;exact wp_skip ⟨.normal,st,g,rfl,hv,h,(Lft.refl _ _).x⟩
  | exit id=>
    intro _
    refine ⟨?_,frs_none fun _=>rfl⟩
    intro R Q st r g a w _ _ h hv;exact wp_exit ⟨.exit id,st,g,rfl,hv,h,(Lft.refl _ _).x⟩
  | ret=>
    intro _
    refine ⟨?_,frs_none fun _=>rfl⟩
    intro R Q st r g a w _ _ h hv;exact wp_ret ⟨.ret,st,g,rfl,hv,h,(Lft.refl _ _).x⟩
  | region id ops d=>
    intro _
    refine ⟨?_,frs_none fun _=>rfl⟩
    intro R Q st r g a w _ hd h hv
    have hmem:∀ o∈ops.toList,∀ x,o.dst=some x->x < F.n /\ x∈(AC.region id ops d).dsts:=fun o ho x hx=>by
      have hm:x∈(AC.region id ops d).dsts:=List.mem_filterMap.2 ⟨o,ho,hx⟩
      exact ⟨hd x hm,hm⟩
    have h':AR F g (sanSt (madeBy ops.toList) st) a w:=⟨h.size,h.defers,san_rel _ h.rel⟩
    cases d with
    | true=>
      refine draw_sound (M:=(· ∈ (AC.region id ops true).dsts)) hE hmem h' hv fun a' w' g' st' hK h2 hl=>⟨.normal,st',g',rfl,hK,h2,(hl.mono (fun _ h=>h) (fun _ h=>h.elim)).x⟩
    | false=>
      refine wp_region_list (pvOps_sound (M:=(· ∈ (AC.region id ops false).dsts)) hE ops.toList [] g _ a w _ hmem h' hv fun a' w' g' tr' st' hK h2 hl=>⟨.normal,st',g',rfl,hK,h2,(hl.mono (fun _ h=>h) (fun _ h=>h.elim)).x⟩)
  | seq x y ihx ihy=>
    intro hh
    obtain ⟨ihx,fx⟩:=ihx fun p hp=>hh p (List.mem_append_left _ hp)
    obtain ⟨ihy,fy⟩:=ihy fun p hp=>hh p (List.mem_append_right _ hp)
    refine ⟨?_,?_⟩
    case refine_2=>
      intro R l rest Q st r g a w hf hlo hg hd h hv
      simp only [AC.good,Bool.and_eq_true] at hg
      simp only [AC.labOk,Bool.and_eq_true] at hlo
      have hdx:∀ d∈x.dsts,d < F.n:=fun d hm=>hd d (List.mem_append_left _ hm)
      have hdy:∀ d∈y.dsts,d < F.n:=fun d hm=>hd d (List.mem_append_right _ hm)
      have hf:(match findLabel x.erase l with | some rest=>some (.seq rest y.erase) | none=>findLabel y.erase l)=some rest:=hf
      unfold pvFrom at hv
      cases hx:hasN x.labs l with
      | false=>
        rw [hx] at hv
        rw [labs_none hx] at hf
        exact Code.wp_mono (fun e a2 w2 hp=>hp.mono (fun i hi=>List.mem_append_right _ hi) (fun i hi=>List.mem_append_right _ hi) (Lft.refl _ _) fun _ _ q=>q) (fy l rest Q st r g a w hf hlo.2 hg.2 hdy h hv)
      | true=>
        rw [hx] at hv
        obtain ⟨r1,hr1⟩:=labs_some hx
        rw [hr1] at hf
        injection hf with hf
        subst hf
        refine wp_seq (Code.wp_mono (fun e a' w' hp=>?_) (fx l r1 _ st r g a w hr1 hlo.1 hg.1 hdx h hv))
        obtain ⟨xt,st',g',rfl,hQ,hR,hl⟩:=hp
        have hl':LftX xt (· ∈ (AC.seq x y).dsts) (· ∈ (AC.seq x y).ids) g a w g' a' w':=hl.mono (fun i hi=>List.mem_append_left _ hi) (fun i hi=>List.mem_append_left _ hi)
        cases xt with
        | exit i=>exact ⟨.exit i,st',g',rfl,hQ,hR,hl'⟩
        | goto i=>exact ⟨.goto i,st',g',rfl,hQ,hR,hl'⟩
        | ret=>exact ⟨.ret,st',g',rfl,hQ,hR,hl'⟩
        | normal=>
          refine Code.wp_mono (fun e a2 w2 hp=>?_) (ihy Q st' r g' a' w' hg.2 hdy hR hQ)
          exact hp.mono (fun i hi=>List.mem_append_right _ hi) (fun i hi=>List.mem_append_right _ hi) (hl'.lft (by intro e;cases e)) fun _ _ q=>q
    intro R Q st r g a w hg hd h hv
    simp only [AC.good,Bool.and_eq_true] at hg
    have hdx:∀ d∈x.dsts,d < F.n:=fun d hm=>hd d (List.mem_append_left _ hm)
    have hdy:∀ d∈y.dsts,d < F.n:=fun d hm=>hd d (List.mem_append_right _ hm)
    refine wp_seq (Code.wp_mono (fun e a' w' hp=>?_) (ihx _ st r g a w hg.1 hdx h hv))
    obtain ⟨xt,st',g',rfl,hQ,hR,hl⟩:=hp
    have hl':LftX xt (· ∈ (AC.seq x y).dsts) (· ∈ (AC.seq x y).ids) g a w g' a' w':=hl.mono (fun i hi=>List.mem_append_left _ hi) (fun i hi=>List.mem_append_left _ hi)
    cases xt with
    | exit i=>exact ⟨.exit i,st',g',rfl,hQ,hR,hl'⟩
    | goto i=>exact ⟨.goto i,st',g',rfl,hQ,hR,hl'⟩
    | ret=>exact ⟨.ret,st',g',rfl,hQ,hR,hl'⟩
    | normal=>
      refine Code.wp_mono (fun e a2 w2 hp=>?_) (ihy Q st' r g' a' w' hg.2 hdy hR hQ)
      exact hp.mono (fun i hi=>List.mem_append_right _ hi) (fun i hi=>List.mem_append_right _ hi) (hl'.lft (by intro e;cases e)) fun _ _ q=>q
  | join n x y ihx ihy=>
    intro hh
    obtain ⟨ihx,fx⟩:=ihx fun p hp=>hh p (List.mem_append_left _ hp)
    obtain ⟨ihy,fy⟩:=ihy fun p hp=>hh p (List.mem_append_right _ hp)
    refine ⟨?_,?_⟩
    case refine_2=>
      intro R l rest Q st r g a w hf hlo hg hd h hv
      unfold pvFrom at hv
      cases hv
    intro R Q st r g a w hg hd h hv
    simp only [AC.good,Bool.and_eq_true] at hg
    obtain ⟨⟨⟨⟨hg1,hg2⟩,hg3⟩,hg4⟩,hg5⟩:=hg
    have hdx:∀ d∈x.dsts,d < F.n:=fun d hm=>hd d (List.mem_append_left _ hm)
    have hdy:∀ d∈y.dsts,d < F.n:=fun d hm=>hd d (List.mem_append_right _ hm)
    have hM:∀ d,d∈x.dsts->n.has d=true:=fun d hm=>List.all_eq_true.1 hg3 d hm
    simp only [okIds,Bool.and_eq_true,Bool.not_eq_true'] at hg4
    have hid:n.id≠0:=fun e=>by have h4:=hg4.1;rw [e] at h4;cases h4
    have hnot:¬ n.id∈x.ids:=fun hm=>by have h4:=hg4.2;rw [hasN_iff.2 hm] at h4;cases h4
    obtain ⟨g1,hrel1,hC1,hρ1,hH1,hK1⟩:=stamp_rel n h.rel
    have h1:AR F g1 (stampSt n st) a w:=⟨h.size,h.defers,hrel1⟩
    have tolx:∀ {g' a' w'},Lft (· ∈ x.dsts) (· ∈ x.ids) g1 a w g' a' w'->Lft (· ∈ x.dsts) (· ∈ (AC.join n x y).ids) g a w g' a' w':=fun {g' a' w'} hl=>
      ⟨fun i hi=>hl.tmp i hi,fun k hk=>(hl.ρ k hk).trans (by rw [hρ1]),by have:=hl.gw;rw [hC1] at this;exact this,
        fun k σ hσ h0=>(hl.H k σ (fun hm=>hσ (List.mem_cons_of_mem _ (List.mem_append_left _ hm))) h0).trans (hH1 k σ fun e=>hσ (by rw [e];exact List.mem_cons_self))⟩
    have tol:∀ {g' a' w'},Lft (· ∈ x.dsts) (· ∈ x.ids) g1 a w g' a' w'->Lft (· ∈ (AC.join n x y).dsts) (· ∈ (AC.join n x y).ids) g a w g' a' w':=fun {g' a' w'} hl=>(tolx hl).mono (fun i hi=>List.mem_append_left _ hi) (fun _ hi=>hi)
    have tolX:∀ {x' g' a' w'},LftX x' (· ∈ x.dsts) (· ∈ x.ids) g1 a w g' a' w'->LftX x' (· ∈ (AC.join n x y).dsts) (· ∈ (AC.join n x y).ids) g a w g' a' w':=fun {x' g' a' w'} hl=>⟨fun k hk=>(hl.ρ k fun hm=>hk (List.mem_append_left _ hm)).trans (by rw [hρ1]),fun e=>tol (hl.lft e)⟩
    rcases join_some hv with hv | ⟨xd,hv,hb⟩
    · refine wp_seq (Code.wp_mono (fun e a' w' hp=>?_) (ihx _ _ _ g1 a w hg1 hdx h1 hv))
      obtain ⟨xt,st',g',rfl,hQ,hR,hl⟩:=hp
      cases xt with
      | exit i=>
        obtain ⟨q,hq,he⟩:=Option.map_eq_some_iff.1 hQ
        injection he with he
        subst he
        exact ⟨.exit i,st',g',rfl,hq,hR,tolX hl⟩
      | goto i=>
        obtain ⟨q,hq,he⟩:=Option.map_eq_some_iff.1 hQ
        injection he with he
        subst he
        exact ⟨.goto i,st',g',rfl,hq,hR,tolX hl⟩
      | ret=>
        obtain ⟨q,hq,he⟩:=Option.map_eq_some_iff.1 hQ
        injection he with he
        subst he
        exact ⟨.ret,st',g',rfl,hq,hR,tolX hl⟩
      | normal=>
        exfalso
        simp only at hQ
        split at hQ
        · obtain ⟨q,hq,he⟩:=Option.map_eq_some_iff.1 hQ
          cases he
        · cases hQ
    · refine wp_seq (Code.wp_mono (fun e a' w' hp=>?_) (ihx _ _ _ g1 a w hg1 hdx h1 hv))
      obtain ⟨xt,st',g',rfl,hQ,hR,hl⟩:=hp
      cases xt with
      | exit i=>obtain ⟨q,hq,he⟩:=Option.map_eq_some_iff.1 hQ;cases he
      | goto i=>obtain ⟨q,hq,he⟩:=Option.map_eq_some_iff.1 hQ;cases he
      | ret=>obtain ⟨q,hq,he⟩:=Option.map_eq_some_iff.1 hQ;cases he
      | normal=>
        simp only at hQ
        split at hQ
        · rename_i hko
          obtain ⟨q,hq,he⟩:=Option.map_eq_some_iff.1 hQ
          injection he with he
          subst he
          split at hb
          · rename_i hd' hhd
            have hl:=hl.lft (by intro e;cases e)
            have hks:=kept_same hid hnot hl hK1 hR.rel hko
            obtain ⟨g2,hrel2,e1,e2,e3,e4⟩:=head_rel (M:=(· ∈ x.dsts)) (n:=n) h.rel (tolx hl) hM hR.rel hq hks hhd
            refine Code.wp_mono (fun e a2 w2 hp=>?_) (ihy Q hd' r g2 a' w' hg2 hdy ⟨hR.size,hR.defers,hrel2⟩ hb)
            refine hp.mono (fun i hi=>List.mem_append_right _ hi) (fun i hi=>List.mem_cons_of_mem _ (List.mem_append_right _ hi)) ?_ fun _ _ q=>q
            exact (tol hl).trans ⟨fun _ _=>rfl,fun k _=>by rw [e2],by rw [e1];exact Gw.refl _ _,fun k σ hσ _=>e3 k σ fun e=>hσ (by rw [e];exact List.mem_cons_self)⟩
          · cases hb
        · cases hQ
  | label l'=>
    intro _
    refine ⟨?_,?_⟩
    · intro R Q st r g a w _ _ h hv;exact wp_label ⟨.normal,st,g,rfl,hv,h,(Lft.refl _ _).x⟩
    · intro R l rest Q st r g a w hf _ _ _ h hv
      have hf:(if l'==l then some Code.skip else none)=some rest:=hf
      split at hf
      · injection hf with hf
        subst hf
        exact wp_skip ⟨.normal,st,g,rfl,hv,h,(Lft.refl _ _).x⟩
      · cases hf
  | goto l=>
    intro _
    refine ⟨?_,frs_none fun _=>rfl⟩
    intro R Q st r g a w _ _ h hv;exact wp_goto ⟨.goto l,st,g,rfl,hv,h,(Lft.refl _ _).x⟩
  | scope n b ih=>
    intro hh
    obtain ⟨ih,fb⟩:=ih hh
    refine ⟨?_,frs_none fun _=>rfl⟩
    intro R Q st r g a w hg hd h hv
    simp only [AC.good,Bool.and_eq_true] at hg
    obtain ⟨⟨⟨⟨hg1,hg3⟩,hg4⟩,hg5⟩,hg6⟩:=hg
    have hM:∀ d,d∈b.dsts->n.has d=true:=fun d hm=>List.all_eq_true.1 hg3 d hm
    simp only [okIds,Bool.and_eq_true,Bool.not_eq_true'] at hg4
    have hid:n.id≠0:=fun e=>by have h4:=hg4.1;rw [e] at h4;cases h4
    have hnot:¬ n.id∈b.ids:=fun hm=>by have h4:=hg4.2;rw [hasN_iff.2 hm] at h4;cases h4
    obtain ⟨g1,hrel1,hC1,hρ1,hH1,hK1⟩:=stamp_rel n h.rel
    have h1:AR F g1 (stampSt n st) a w:=⟨h.size,h.defers,hrel1⟩
    have tol:∀ {g' a' w'},Lft (· ∈ b.dsts) (· ∈ b.ids) g1 a w g' a' w'->Lft (· ∈ b.dsts) (· ∈ (AC.scope n b).ids) g a w g' a' w':=fun {g' a' w'} hl=>
      ⟨fun i hi=>hl.tmp i hi,fun k hk=>(hl.ρ k hk).trans (by rw [hρ1]),by have:=hl.gw;rw [hC1] at this;exact this,
        fun k σ hσ h0=>(hl.H k σ (fun hm=>hσ (List.mem_cons_of_mem _ hm)) h0).trans (hH1 k σ fun e=>hσ (by rw [e];exact List.mem_cons_self))⟩
    have tolX:∀ {x' g' a' w'},LftX x' (· ∈ b.dsts) (· ∈ b.ids) g1 a w g' a' w'->LftX x' (· ∈ b.dsts) (· ∈ (AC.scope n b).ids) g a w g' a' w':=fun {x' g' a' w'} hl=>⟨fun k hk=>(hl.ρ k hk).trans (by rw [hρ1]),fun e=>tol (hl.lft e)⟩
    rcases join_some hv with hv | ⟨⟨l0,x0⟩,hv,hb⟩
    · refine wp_scope_ghost (fun _ _ _ _=>False) (Code.wp_mono (fun e a' w' hp=>?_) (ih _ _ _ g1 a w hg1 hd h1 hv)) (fun _ _ _ _ _ _ hF=>hF.elim)
      obtain ⟨xt,st',g',rfl,hQ,hR,hl⟩:=hp
      cases xt with
      | exit i=>
        obtain ⟨q,hq,he⟩:=Option.map_eq_some_iff.1 hQ
        injection he with he
        subst he
        exact ⟨.exit i,st',g',rfl,hq,hR,tolX hl⟩
      | normal=>
        obtain ⟨q,hq,he⟩:=Option.map_eq_some_iff.1 hQ
        injection he with he
        subst he
        exact ⟨.normal,st',g',rfl,hq,hR,tolX hl⟩
      | ret=>
        obtain ⟨q,hq,he⟩:=Option.map_eq_some_iff.1 hQ
        injection he with he
        subst he
        exact ⟨.ret,st',g',rfl,hq,hR,tolX hl⟩
      | goto i=>
        simp only at hQ
        cases hi:hasN b.labs i with
        | true=>
          rw [hi] at hQ
          simp only at hQ
          split at hQ
          · obtain ⟨q,hq,he⟩:=Option.map_eq_some_iff.1 hQ
            cases he
          · cases hQ
        | false=>
          rw [hi] at hQ
          obtain ⟨q,hq,he⟩:=Option.map_eq_some_iff.1 hQ
          injection he with he
          subst he
          exact .inr ⟨labs_none hi,.goto i,st',g',rfl,hq,hR,tolX hl⟩
    · obtain ⟨k0,hk0⟩:=iter_of_loop hb
      obtain ⟨B,hk0,hB⟩:∃ B:Nat×n.D->Option (R⊕(Nat×n.D)),iterC B k0 (l0,x0)=some r /\ ∀ p,B p=(match headSt n st p.2 with
        | some h=>pvFrom E b p.1 (fun x s=>match x with
          | .goto l=>match hasN b.labs l with
            | true=>match keptOk n s with | true=>(collect n s).map fun y=>.inr (l,y) | false=>none
            | false=>(Q (.goto l) s).map .inl
          | x=>(Q x s).map .inl) h
        | none=>none):=⟨_,hk0,fun _=>rfl⟩
      have mk : ∀ {g' a' w' s x hd'}, AR F g' s a' w' -> Lft (· ∈ b.dsts) (· ∈ (AC.scope n b).ids) g a w g' a' w' -> collect n s = some x -> (∀ k, k ∈ n.kept -> ∀ σ0 ls0, st.L k = some (σ0, ls0) -> ∃ σ ls, s.L k = some (σ, ls) /\ ls.map unown = ls0.map unown) -> headSt n st x = some hd' ->
          ∃ g2,AR F g2 hd' a' w' /\ Lft (· ∈ b.dsts) (· ∈ (AC.scope n b).ids) g a w g2 a' w' /\ ∀ k ls,keptL n st k=some (n.id,ls)->g2.H k n.id=ls:=fun {g' a' w' s x hd'} hs hl hc hks hhd=>by
        obtain ⟨g2,hrel2,e1,e2,e3,e4⟩:=head_rel (M:=(· ∈ b.dsts)) (n:=n) h.rel hl hM hs.rel hc hks hhd
        exact ⟨g2,⟨hs.size,hs.defers,hrel2⟩,hl.trans ⟨fun _ _=>rfl,fun k _=>by rw [e2],by rw [e1];exact Gw.refl _ _,fun k σ hσ _=>e3 k σ fun e=>hσ (by rw [e];exact List.mem_cons_self)⟩,e4⟩
      refine wp_scope_ghost (fun l k a' w'=>∃ x s g',iterC B k (l,x)=some r /\ AR F g' s a' w' /\ Lft (· ∈ b.dsts) (· ∈ (AC.scope n b).ids) g a w g' a' w' /\ collect n s=some x /\ (∀ k,k∈n.kept -> ∀ σ0 ls0,st.L k=some (σ0,ls0) -> ∃ σ ls,s.L k=some (σ,ls) /\ ls.map unown=ls0.map unown))
        (Code.wp_mono (fun e a' w' hp=>?_) (ih _ _ _ g1 a w hg1 hd h1 hv)) ?_
      · obtain ⟨xt,st',g',rfl,hQ,hR,hl⟩:=hp
        cases xt with
        | exit i=>obtain ⟨q,hq,he⟩:=Option.map_eq_some_iff.1 hQ;cases he
        | normal=>obtain ⟨q,hq,he⟩:=Option.map_eq_some_iff.1 hQ;cases he
        | ret=>obtain ⟨q,hq,he⟩:=Option.map_eq_some_iff.1 hQ;cases he
        | goto i=>
          simp only at hQ
          cases hi:hasN b.labs i with
          | false=>
            rw [hi] at hQ
            obtain ⟨q,hq,he⟩:=Option.map_eq_some_iff.1 hQ
            cases he
          | true=>
            rw [hi] at hQ
            simp only at hQ
            split at hQ
            · rename_i hko
              obtain ⟨q,hq,he⟩:=Option.map_eq_some_iff.1 hQ
              injection he with he
              injection he with he1 he2
              subst he1;subst he2
              obtain ⟨r1,hr1⟩:=labs_some hi
              exact .inl ⟨k0,⟨q,st',g',hk0,hR,tol (hl.lft (by intro e;cases e)),hq,kept_same hid hnot (hl.lft (by intro e;cases e)) hK1 hR.rel hko⟩,by rw [hr1];rfl⟩
            · cases hQ
      · rintro l k a' w' rest hf ⟨x,s,g',hit,hs,hl,hc,hks⟩
        cases k with
        | zero=>cases hit
        | succ k=>
          rcases iter_succ hit with hbody | ⟨⟨l2,x2⟩,hbody,hit'⟩ <;> rw [hB] at hbody
          · cases hhd:headSt n st x with
            | none=>rw [hhd] at hbody;cases hbody
            | some hd'=>
              rw [hhd] at hbody
              simp only at hbody
              obtain ⟨g2,h2,hl2,hK2⟩:=mk hs hl hc hks hhd
              refine Code.wp_mono (fun e a2 w2 hp=>?_) (fb l rest _ hd' _ g2 a' w' hf hg6 hg1 hd h2 hbody)
              obtain ⟨xt,st2,g3,rfl,hQ,hR,hl3⟩:=hp
              have hl4:=hl2.transX (hl3.mono (fun _ hi=>hi) (fun _ hi=>List.mem_cons_of_mem _ hi))
              cases xt with
              | exit i=>
                obtain ⟨q,hq,he⟩:=Option.map_eq_some_iff.1 hQ
                injection he with he
                subst he
                exact ⟨.exit i,st2,g3,rfl,hq,hR,hl4⟩
              | normal=>
                obtain ⟨q,hq,he⟩:=Option.map_eq_some_iff.1 hQ
                injection he with he
                subst he
                exact ⟨.normal,st2,g3,rfl,hq,hR,hl4⟩
              | ret=>
                obtain ⟨q,hq,he⟩:=Option.map_eq_some_iff.1 hQ
                injection he with he
                subst he
                exact ⟨.ret,st2,g3,rfl,hq,hR,hl4⟩
              | goto i=>
                simp only at hQ
                cases hi:hasN b.labs i with
                | true=>
                  rw [hi] at hQ
                  simp only at hQ
                  split at hQ
                  · obtain ⟨q,hq,he⟩:=Option.map_eq_some_iff.1 hQ
                    cases he
                  · cases hQ
                | false=>
                  rw [hi] at hQ
                  obtain ⟨q,hq,he⟩:=Option.map_eq_some_iff.1 hQ
                  injection he with he
                  subst he
                  exact .inr ⟨labs_none hi,.goto i,st2,g3,rfl,hq,hR,hl4⟩
          · cases hhd:headSt n st x with
            | none=>rw [hhd] at hbody;cases hbody
            | some hd'=>
              rw [hhd] at hbody
              simp only at hbody
              obtain ⟨g2,h2,hl2,hK2⟩:=mk hs hl hc hks hhd
              refine Code.wp_mono (fun e a2 w2 hp=>?_) (fb l rest _ hd' _ g2 a' w' hf hg6 hg1 hd h2 hbody)
              obtain ⟨xt,st2,g3,rfl,hQ,hR,hl3⟩:=hp
              have hl4:=hl2.transX (hl3.mono (fun _ hi=>hi) (fun _ hi=>List.mem_cons_of_mem _ hi))
              cases xt with
              | exit i=>obtain ⟨q,hq,he⟩:=Option.map_eq_some_iff.1 hQ;cases he
              | normal=>obtain ⟨q,hq,he⟩:=Option.map_eq_some_iff.1 hQ;cases he
              | ret=>obtain ⟨q,hq,he⟩:=Option.map_eq_some_iff.1 hQ;cases he
              | goto i=>
                simp only at hQ
                cases hi:hasN b.labs i with
                | false=>
                  rw [hi] at hQ
                  obtain ⟨q,hq,he⟩:=Option.map_eq_some_iff.1 hQ
                  cases he
                | true=>
                  rw [hi] at hQ
                  simp only at hQ
                  split at hQ
                  · rename_i hko
                    obtain ⟨q,hq,he⟩:=Option.map_eq_some_iff.1 hQ
                    injection he with he
                    injection he with he1 he2
                    subst he1;subst he2
                    obtain ⟨r1,hr1⟩:=labs_some hi
                    exact .inl ⟨k,Nat.lt_succ_self k,⟨q,st2,g3,hit',hR,hl4.lft (by intro e;cases e),hq,kept_same hid hnot (hl3.lft (by intro e;cases e)) hK2 hR.rel hko⟩,by rw [hr1];rfl⟩
                  · cases hQ
  | cond c x y ihx ihy=>
    intro hh
    obtain ⟨ihx,fx⟩:=ihx fun p hp=>hh p (List.mem_append_left _ hp)
    obtain ⟨ihy,fy⟩:=ihy fun p hp=>hh p (List.mem_append_right _ hp)
    refine ⟨?_,frs_none fun _=>rfl⟩
    intro R Q st r g a w hg hd h hv
    simp only [AC.good,Bool.and_eq_true] at hg
    have hdx:∀ d∈x.dsts,d < F.n:=fun d hm=>hd d (List.mem_append_left _ hm)
    have hdy:∀ d∈y.dsts,d < F.n:=fun d hm=>hd d (List.mem_append_right _ hm)
    unfold pv at hv
    split at hv
    · rename_i b hb
      have hc:=evS_rel h.rel c
      rw [hb] at hc
      have hc':a.eval c=.bool b:=rel_bool hc
      have key:∀ q:Bool,b=q->(cond q (pv E x Q st) (pv E y Q st))=some r->(Code.cond c x.erase y.erase).wp E.P (PostC F (· ∈ (AC.cond c x y).dsts) (· ∈ (AC.cond c x y).ids) g a w Q r) a w:=fun q e hv=>by
        subst e
        cases b with
        | true=>exact wp_cond_true hc' (Code.wp_mono (fun e a' w' hp=>hp.mono (fun i hi=>List.mem_append_left _ hi) (fun i hi=>List.mem_append_left _ hi) (Lft.refl _ _) (fun _ _ q=>q)) (ihx Q st r g a w hg.1 hdx h hv))
        | false=>exact wp_cond_false hc' (Code.wp_mono (fun e a' w' hp=>hp.mono (fun i hi=>List.mem_append_right _ hi) (fun i hi=>List.mem_append_right _ hi) (Lft.refl _ _) (fun _ _ q=>q)) (ihy Q st r g a w hg.2 hdy h hv))
      exact key b rfl hv
    · cases hv
  | block id b ih=>
    intro hh
    obtain ⟨ih,fb⟩:=ih hh
    refine ⟨?_,frs_none fun _=>rfl⟩
    intro R Q st r g a w hg hd h hv
    refine wp_block (Code.wp_mono (fun e a' w' hp=>?_) (ih _ st r g a w hg hd h hv))
    obtain ⟨x,st',g',rfl,hQ,hr,hF⟩:=hp
    cases x with
    | normal=>exact ⟨.normal,st',g',rfl,hQ,hr,hF⟩
    | ret=>exact ⟨.ret,st',g',rfl,hQ,hr,hF⟩
    | goto i=>exact ⟨.goto i,st',g',rfl,hQ,hr,hF⟩
    | exit i=>
      have hF':=hF.lft (by intro e;cases e)
      show (if i=id then _ else _)
      cases hb:Nat.beq i id with
      | true=>
        rw [if_pos (Nat.eq_of_beq_eq_true hb)]
        simp only [hb] at hQ
        exact ⟨.normal,st',g',rfl,hQ,hr,hF'.x⟩
      | false=>
        rw [if_neg (fun e=>by rw [e] at hb;simp at hb)]
        simp only [hb] at hQ
        exact ⟨.exit i,st',g',rfl,hQ,hr,hF⟩
  | loop n b ih=>
    intro hh
    obtain ⟨ih,fb⟩:=ih hh
    refine ⟨?_,frs_none fun _=>rfl⟩
    intro R Q st r g a w hg hd h hv
    simp only [AC.good,Bool.and_eq_true] at hg
    obtain ⟨⟨⟨hg1,hg3⟩,hg4⟩,hg5⟩:=hg
    have hM:∀ d,d∈b.dsts->n.has d=true:=fun d hm=>List.all_eq_true.1 hg3 d hm
    simp only [okIds,Bool.and_eq_true,Bool.not_eq_true'] at hg4
    have hid:n.id≠0:=fun e=>by have h4:=hg4.1;rw [e] at h4;cases h4
    have hnot:¬ n.id∈b.ids:=fun hm=>by have h4:=hg4.2;rw [hasN_iff.2 hm] at h4;cases h4
    unfold pv at hv
    split at hv
    case h_2=>cases hv
    rename_i x0 hx0
    obtain ⟨k0,hk0⟩:=iter_of_loop hv
    -- the head, from a state whose data are these
    have mk : ∀ {g' a' w' s x hd'}, AR F g' s a' w' -> Lft (· ∈ b.dsts) (· ∈ (AC.loop n b).ids) g a w g' a' w' -> collect n s = some x -> (∀ k, k ∈ n.kept -> ∀ σ0 ls0, st.L k = some (σ0, ls0) -> ∃ σ ls, s.L k = some (σ, ls) /\ ls.map unown = ls0.map unown) -> headSt n st x = some hd' ->
        ∃ g2,AR F g2 hd' a' w' /\ Lft (· ∈ b.dsts) (· ∈ (AC.loop n b).ids) g a w g2 a' w' /\ ∀ k ls,keptL n st k=some (n.id,ls)->g2.H k n.id=ls:=fun {g' a' w' s x hd'} hs hl hc hks hhd=>by
      obtain ⟨g2,hrel2,e1,e2,e3,e4⟩:=head_rel (M:=(· ∈ b.dsts)) (n:=n) h.rel hl hM hs.rel hc hks hhd
      exact ⟨g2,⟨hs.size,hs.defers,hrel2⟩,hl.trans ⟨fun _ _=>rfl,fun k _=>by rw [e2],by rw [e1];exact Gw.refl _ _,fun k σ hσ _=>e3 k σ fun e=>hσ (by rw [e];exact List.mem_cons_self)⟩,e4⟩
    refine wp_loop_ghost (fun k a' w'=>∃ x s g',iterC _ k x=some r /\ AR F g' s a' w' /\ Lft (· ∈ b.dsts) (· ∈ (AC.loop n b).ids) g a w g' a' w' /\ collect n s=some x /\ (∀ k,k∈n.kept -> ∀ σ0 ls0,st.L k=some (σ0,ls0) -> ∃ σ ls,s.L k=some (σ,ls) /\ ls.map unown=ls0.map unown)) k0
      ⟨x0,st,g,hk0,h,Lft.refl _ _,hx0,fun k _ σ0 ls0 h0=>⟨σ0,ls0,h0,rfl⟩⟩ ?_
    rintro k a' w' ⟨x,s,g',hit,hs,hl,hc,hks⟩
    cases k with
    | zero=>cases hit
    | succ k=>
      rcases iter_succ hit with hbody | ⟨x2,hbody,hit'⟩
      · cases hhd:headSt n st x with
        | none=>rw [hhd] at hbody;cases hbody
        | some hd'=>
          rw [hhd] at hbody
          simp only at hbody
          obtain ⟨g2,h2,hl2,hK2⟩:=mk hs hl hc hks hhd
          refine Code.wp_mono (fun e a2 w2 hp=>?_) (ih _ hd' _ g2 a' w' hg1 hd h2 hbody)
          obtain ⟨xt,st2,g3,rfl,hQ,hR,hl3⟩:=hp
          have hl4:=hl2.transX (hl3.mono (fun _ hi=>hi) (fun _ hi=>List.mem_cons_of_mem _ hi))
          cases xt with
          | exit i=>
            obtain ⟨q,hq,he⟩:=Option.map_eq_some_iff.1 hQ
            injection he with he
            subst he
            exact ⟨.exit i,st2,g3,rfl,hq,hR,hl4⟩
          | goto i=>
            obtain ⟨q,hq,he⟩:=Option.map_eq_some_iff.1 hQ
            injection he with he
            subst he
            exact ⟨.goto i,st2,g3,rfl,hq,hR,hl4⟩
          | ret=>
            obtain ⟨q,hq,he⟩:=Option.map_eq_some_iff.1 hQ
            injection he with he
            subst he
            exact ⟨.ret,st2,g3,rfl,hq,hR,hl4⟩
          | normal=>
            exfalso
            simp only at hQ
            split at hQ
            · obtain ⟨q,hq,he⟩:=Option.map_eq_some_iff.1 hQ
              cases he
            · cases hQ
      · cases hhd:headSt n st x with
        | none=>rw [hhd] at hbody;cases hbody
        | some hd'=>
          rw [hhd] at hbody
          simp only at hbody
          obtain ⟨g2,h2,hl2,hK2⟩:=mk hs hl hc hks hhd
          refine Code.wp_mono (fun e a2 w2 hp=>?_) (ih _ hd' _ g2 a' w' hg1 hd h2 hbody)
          obtain ⟨xt,st2,g3,rfl,hQ,hR,hl3⟩:=hp
          have hl4:=hl2.transX (hl3.mono (fun _ hi=>hi) (fun _ hi=>List.mem_cons_of_mem _ hi))
          cases xt with
          | exit i=>obtain ⟨q,hq,he⟩:=Option.map_eq_some_iff.1 hQ;cases he
          | goto i=>obtain ⟨q,hq,he⟩:=Option.map_eq_some_iff.1 hQ;cases he
          | ret=>obtain ⟨q,hq,he⟩:=Option.map_eq_some_iff.1 hQ;cases he
          | normal=>
            simp only at hQ
            split at hQ
            · rename_i hko
              obtain ⟨q,hq,he⟩:=Option.map_eq_some_iff.1 hQ
              injection he with he
              subst he
              exact ⟨k,Nat.lt_succ_self k,_,st2,g3,hit',hR,hl4.lft (by intro e;cases e),hq,kept_same hid hnot (hl3.lft (by intro e;cases e)) hK2 hR.rel hko⟩
            · cases hQ

theorem pv_sound (hE:E.okF F) (c:AC) (hh:∀ p∈c.hands,HandS E.P F p.1 p.2) {R:Type} (Q:Xt->PSt->Option R) (st:PSt) (r:R) (g:Gh) (a:Act) (w:World) (hg:c.good=true) (hd:∀ d∈c.dsts,d < F.n) (h:AR F g st a w) (hv:pv E c Q st=some r) :
  c.erase.wp E.P (PostC F (· ∈ c.dsts) (· ∈ c.ids) g a w Q r) a w:=(pv_both hE c hh).1 Q st r g a w hg hd h hv

theorem run_mapM {P:Program} {α β:Type} {f:α->Sem β}:∀ (l:List α) (r:List β),(∀ (i:Nat) (x:α),l[i]? = some x -> ∃ y,r[i]? = some y /\ (f x).run P w=.ok y w)->r.length=l.length->(l.mapM f).run P w=.ok r w
 | [],r,_,hl=>by
  have:r=[]:=List.eq_nil_of_length_eq_zero (by simpa using hl)
  subst this;rfl
 | x::l,[],_,hl=>by simp at hl
 | x::l,y::r,h,hl=>by
  obtain ⟨y',hy,hr⟩:=h 0 x rfl
  obtain rfl:y=y':=by simpa using hy
  rw [List.mapM_cons,Sem.run_bind,hr,Result.andThen_ok,Sem.run_bind,run_mapM l r (fun i z hz=>h (i+1) z hz) (by simpa using hl)]
  rfl
theorem resLs_rel {P:Program} (h:AR F g st a w) {rv:ResultVar} {ag:Bool} {ts:List LT} {ls:List Leaf} (hr:resLs P st rv (ag,ts)=some ls) :
  ls.length=ts.length /\ ∃ v,(match rv with | .tmp t=>(pure (a.tmps.getD t undef):Sem Value) | .cell x t=>(do loadVar t (<- asAddr (a.tmps.getD x undef)))).run P w=.ok v w /\ RelV F g w st.O v ag ls:=by
 cases rv with
 | tmp t=>
  have hr':(match st.φ t with | .w ag' ls=>(match bEq ag ag'&&Nat.beq ls.length ts.length with | true=>some ls | false=>none) | _=>none)=some ls:=hr
  split at hr'
  ·rename_i ag' l hp
   split at hr'
   ·rename_i hb
    simp only [Bool.and_eq_true] at hb
    injection hr' with e
    subst e
    have h1:=h.rel.slots t
    rw [hp] at h1
    rw [bEq_iff.1 hb.1]
    exact ⟨Nat.eq_of_beq_eq_true hb.2,_,rfl,h1⟩
   ·cases hr'
  ·cases hr'
 | cell x t=>
  have hr':(match st.φ x with
   | .loc k off=>match st.L k with
    | some (_,ls)=>match atLs P t ls off,bEq ag (isAg P t)&&(P.underlying t).isSome with | some vs,true=>(match Nat.beq vs.length ts.length with | true=>some vs | false=>none) | _,_=>none
    | none=>none
   | _=>none)=some ls:=hr
  split at hr'
  case h_2=>cases hr'
  rename_i k off hp
  split at hr'
  case h_2=>cases hr'
  rename_i σ l hL
  split at hr'
  case h_2=>cases hr'
  rename_i vs hvs hb
  simp only [Bool.and_eq_true] at hb
  split at hr'
  case h_2=>cases hr'
  rename_i hlen
  injection hr' with e
  subst e
  have h1:=h.rel.slots x
  rw [hp] at h1
  have hx:a.tmps.getD x undef=.pointer (some ⟨(g.ρ k).1,(g.ρ k).2+off,none⟩):=h1
  obtain ⟨cs,hr1,hc⟩:=loc_cells h.rel hL
  obtain ⟨p,q,rfl,hsz,hh⟩:=atLs_some hvs
  obtain ⟨c1,c2,rfl,hr2,hr3⟩:=repLs_split hr1
  have hl:c1.length=off:=(repLs_len hr2).trans hsz
  obtain ⟨v,hrun,hrel⟩:=load_at (P:=P) (ad:=⟨(g.ρ k).1,(g.ρ k).2+off,none⟩) hb.2 (fun j x hj=>by
   rw [add_at,Nat.add_assoc]
   exact hc _ x (by rw [List.getElem?_append_right (by omega),hl,Nat.add_sub_cancel_left];exact hj)) hr3 hh
  refine ⟨Nat.eq_of_beq_eq_true hlen,v,?_,by rw [bEq_iff.1 hb.1];exact hrel⟩
  simp [hx,asAddr,hrun]
def resVal (a:Act):ResultVar->Sem Value
 | .tmp t=>pure (a.tmps.getD t undef)
 | .cell x t=>do loadVar t (<- asAddr (a.tmps.getD x undef))
theorem resAll_rel {P:Program} (h:AR F g st a w):∀ {rvs:List ResultVar} {rs:List (Bool×List LT)} {la:List Leaf},resAll P st rvs rs=some la ->
  la.length=(rs.flatMap (·.2)).length /\ ∃ us:List Value,us.length=rs.length /\ us.length=rvs.length /\ (∀ (i:Nat) (x:ResultVar),rvs[i]? = some x -> ∃ y,us[i]? = some y /\ (resVal a x).run P w=.ok y w) /\
   ∀ (rest:List Leaf) (i:Nat),i < rs.length -> ∃ ag l,resAt rs (la++rest) i=.w ag l /\ RelV F g w st.O (us.getD i undef) ag l
 | [],[],la,hr=>by
  have:la=[]:=(Option.some.inj (show some []=some la from hr)).symm
  subst this
  exact ⟨rfl,[],rfl,rfl,fun i x hx=>by simp at hx,fun rest i hi=>by simp at hi⟩
 | [],_::_,_,hr=>by cases hr
 | _::_,[],_,hr=>by cases hr
 | rv::rvs,(ag,ts)::rs,la,hr=>by
  unfold resAll at hr
  split at hr
  ·rename_i l1 l2 h1 h2
   injection hr with hr
   subst hr
   obtain ⟨q1,v,q2,q3⟩:=resLs_rel h h1
   obtain ⟨i1,us,i2,i3,i4,i5⟩:=resAll_rel h h2
   refine ⟨by simp [q1,i1],v::us,by simp [i2],by simp [i3],fun i x hx=>?_,fun rest i hi=>?_⟩
   ·cases i with
    | zero=>
     simp only [List.getElem?_cons_zero,Option.some.injEq] at hx
     subst hx
     refine ⟨v,rfl,?_⟩
     cases rv <;> exact q2
    | succ i=>exact i4 i x (by simpa using hx)
   ·cases i with
    | zero=>
     refine ⟨ag,l1,?_,q3⟩
     show PV.w ag ((l1++l2++rest).take ts.length)=_
     rw [<-q1,List.append_assoc,List.take_left]
    | succ i=>
     obtain ⟨ag',l,e1,e2⟩:=i5 rest i (by simpa using hi)
     refine ⟨ag',l,?_,e2⟩
     show resAt rs ((l1++l2++rest).drop ts.length) i=_
     rw [<-q1,List.append_assoc,List.drop_left];exact e1
  ·cases hr
theorem inoutLs_at:∀ {ps:List Par} {j:Nat} {lb:List Leaf},inoutLs st ps j=some lb -> ∀ (rest:List Leaf) (k:Nat) (l:List Leaf),inoutAt ps (lb++rest) k=some l -> ∃ σ,st.L (j+k)=some (σ,l)
 | [],j,lb,h,rest,k,l,hk=>by cases hk
 | .v ag ts::r,j,lb,h,rest,k,l,hk=>by
  cases k with
  | zero=>cases hk
  | succ k=>
   obtain ⟨σ,hs⟩:=inoutLs_at (ps:=r) (j:=j+1) h rest k l hk
   exact ⟨σ,by rw [<-hs];congr 1;omega⟩
 | .m ts::r,j,lb,h,rest,k,l,hk=>by
  unfold inoutLs at h
  split at h
  ·rename_i σ ls q hL hr
   split at h
   ·rename_i hb
    have hl:ls.length=ts.length:=Nat.eq_of_beq_eq_true hb
    injection h with h
    subst h
    cases k with
    | zero=>
     have hk':some ((ls++q++rest).take ts.length)=some l:=hk
     rw [<-hl,List.append_assoc,List.take_left] at hk'
     injection hk' with e
     subst e
     exact ⟨σ,hL⟩
    | succ k=>
     have hk':inoutAt r ((ls++q++rest).drop ts.length) k=some l:=hk
     rw [<-hl,List.append_assoc,List.drop_left] at hk'
     obtain ⟨σ,hs⟩:=inoutLs_at (ps:=r) (j:=j+1) hr rest k l hk'
     exact ⟨σ,by rw [<-hs];congr 1;omega⟩
   ·cases h
  ·cases h
theorem resAt_same {σ:Tok->Tok->Prop}:∀ {rs:List (Bool×List LT)} {q q':List Leaf} {i:Nat} {ag:Bool} {l:List Leaf},SameLs σ q q'->resAt rs q i=.w ag l -> ∃ l',resAt rs q' i=.w ag l' /\ SameLs σ l l'
 | [],_,_,_,_,_,_,h=>by cases h
 | (ag0,ts)::r,q,q',0,ag,l,hs,h=>by
  have h':PV.w ag0 (q.take ts.length)=.w ag l:=h
  injection h' with e1 e2
  subst e1;subst e2
  exact ⟨_,rfl,hs.take _⟩
 | (ag0,ts)::r,q,q',i+1,ag,l,hs,h=>resAt_same (rs:=r) (hs.drop _) h
theorem resAt_out:∀ {rs:List (Bool×List LT)} {q:List Leaf} {i:Nat},rs.length<=i->resAt rs q i=.dead
 | [],_,_,_=>rfl
 | _::_,_,0,h=>by simp at h
 | (_,ts)::r,q,i+1,h=>resAt_out (rs:=r) (by simpa using h)
def exitG (g:Gh) (ks:List Tok):Gh:=⟨g.C,fun t=>match t with | .hd 0 j=>g.blk (ks.getD j .zero) | _=>none,g.ρ,fun _ _=>[]⟩
theorem exit_rel {P:Program} {s:Sig} {rvs:List ResultVar} {y:s.out.D} (h:AR F g st a w) (hr:retP P rvs s st=some y) :
  ∃ (us:List Value) (g':Gh) (stX:PSt),us.length=s.rs.length /\ us.length=rvs.length /\ (∀ (i:Nat) (x:ResultVar),rvs[i]? = some x -> ∃ y,us[i]? = some y /\ (resVal a x).run P w=.ok y w) /\ exitSt s y=some stX /\ MRel F g' stX (fun i=>us.getD i undef) w /\ g'.ρ=g.ρ:=by
 unfold retP at hr
 split at hr
 case h_2=>cases hr
 rename_i la lb hla hlb
 split at hr
 case h_2=>cases hr
 rename_i ks xs htake0
 obtain ⟨htake,hno⟩:=takeAllN_some htake0
 split at hr
 case h_2=>cases hr
 rename_i hdt
 have hun:unpackD (s.outs.map LT.ty) y=xs:=unpack_pack _ _ _ hr
 obtain ⟨q1,us,q2,q3,q4,q5⟩:=resAll_rel h hla
 obtain ⟨osX,hmk⟩:=mk_some (lab:=Tok.hd 0) (j:=0) htake
 obtain ⟨hsame,_⟩:=take_mk (fun l _=>.inr hno) htake hmk
 have hex:exitSt s y=some ⟨resAt s.rs osX,fun k=>match inoutAt s.ps (osX.drop s.nres) k with | some l=>some (0,l) | none=>none,fun t=>hasT (.zero::labs (Tok.hd 0) s.outs 0) t,[],[],[]⟩:=by
  unfold exitSt
  rw [hun,hmk]
  rfl
 have T:Turn F g st.O F (exitG g ks) (fun t=>hasT (.zero::labs (Tok.hd 0) s.outs 0) t) (fun k k'=>TokAt s.outs ks (Tok.hd 0) 0 k k' /\ st.O k=true):=by
  refine ⟨rfl,fun k k' hσ _=>⟨hσ.2,?_⟩,fun k k' b o _ _ _ _ hw=>hw⟩
  obtain ⟨⟨i,E,e,h1,h2,rfl⟩,_⟩:=hσ
  show g.blk (ks.getD (0+i) .zero)=_
  rw [List.getD_eq_getElem?_getD,Nat.zero_add,h2];rfl
 have liveH:∀ k,hasT (.zero::labs (Tok.hd 0) s.outs 0) k=true->k=.zero \/ ∃ i k0,k=.hd 0 i /\ ks[i]? = some k0 /\ st.O k0=true /\ (exitG g ks).blk k=g.blk k0:=fun k hk=>by
  rcases List.mem_cons.1 (hasT_iff.1 hk) with rfl | hm
  ·exact .inl rfl
  ·obtain ⟨i,E,e,h1,rfl⟩:=labs_mem.1 hm
   obtain ⟨k0,r1,r2⟩:=take_ks htake i E e h1
   refine .inr ⟨i,k0,by rw [Nat.zero_add],r1,r2,?_⟩
   show g.blk (ks.getD (0+i) .zero)=_
   rw [List.getD_eq_getElem?_getD,Nat.zero_add,r1];rfl
 have locH:∀ k y,(match inoutAt s.ps (osX.drop s.nres) k with | some l=>some ((0:Nat),l) | none=>none)=some y->y.1=0 /\ ∃ σ l,st.L k=some (σ,l) /\ SameLs (fun k k'=>TokAt s.outs ks (Tok.hd 0) 0 k k' /\ st.O k=true) l y.2:=fun k y hy=>by
  split at hy
  ·rename_i l' hl'
   injection hy with hy
   subst hy
   obtain ⟨l,h1,h2⟩:=inoutAt_same (hsame.drop s.nres) hl'
   have hnr:s.nres=la.length:=by unfold Sig.nres;rw [q1]
   rw [hnr,List.drop_left] at h1
   obtain ⟨σ,h3⟩:=inoutLs_at hlb [] k l (by rw [List.append_nil];exact h1)
   rw [Nat.zero_add] at h3
   exact ⟨rfl,σ,l,h3,h2⟩
  ·cases hy
 refine ⟨us,exitG g ks,_,q2,q3,q4,hex,⟨h.rel.fr,fun i=>?_,fun k σ l hL=>?_,fun k σ l hL hσ=>?_,fun t b hb=>by (cases hb),fun i t want ag l hs=>?_,fun d hd=>by (cases hd),fun i k hk=>?_,rfl,fun k k' b hk1 hk2 hb hb'=>?_,fun k b j y hk1 hb hL=>?_,fun k b hk1 hb=>?_,fun k b hk1 hb=>?_,fun j j' y y' hj hj' he=>?_⟩,rfl⟩
 ·by_cases hi:i < s.rs.length
  ·obtain ⟨ag,l,e1,e2⟩:=q5 lb i hi
   obtain ⟨l',e3,e4⟩:=resAt_same hsame e1
   show RelP F _ w _ _ _ (resAt s.rs osX i)
   rw [e3]
   exact e2.turn T e4
  ·show RelP F _ w _ _ _ (resAt s.rs osX i)
   rw [resAt_out (by omega)];trivial
 ·obtain ⟨e,σ1,l1,h1,h2⟩:=locH k (σ,l) hL
  exact (h.rel.locals k σ1 l1 h1).turn T (fun _ _ hw=>hw) h2
 ·exact (hσ (locH k (σ,l) hL).1).elim
 ·by_cases hi:i < s.rs.length
  ·obtain ⟨ag',l',e1,e2⟩:=q5 lb i hi
   obtain ⟨l2,e3,e4⟩:=resAt_same hsame e1
   have hs':resAt s.rs osX i=.spec t want ag l:=hs
   rw [e3] at hs';cases hs'
  ·have hs':resAt s.rs osX i=.spec t want ag l:=hs
   rw [resAt_out (by omega)] at hs';cases hs'
 ·by_cases hi:i < s.rs.length
  ·obtain ⟨ag',l',e1,e2⟩:=q5 lb i hi
   obtain ⟨l2,e3,e4⟩:=resAt_same hsame e1
   have hk':k∈keyP (resAt s.rs osX i):=hk
   rw [e3] at hk';cases hk'
  ·have hk':k∈keyP (resAt s.rs osX i):=hk
   rw [resAt_out (by omega)] at hk';cases hk'
 ·rcases liveH k hk1 with rfl | ⟨i,k0,rfl,r1,r2,r3⟩
  ·cases hb
  rcases liveH k' hk2 with rfl | ⟨i',k0',rfl,r1',r2',r3'⟩
  ·cases hb'
  rw [r3] at hb;rw [r3'] at hb'
  have e1:=h.rel.blkI k0 k0' b r2 r2' hb hb'
  subst e1
  have hz:k0≠.zero:=fun e=>by rw [e,h.rel.blk0] at hb;cases hb
  rw [distinct_at hdt r1 r1' hz]
 ·rcases liveH k hk1 with rfl | ⟨i,k0,rfl,r1,r2,r3⟩
  ·cases hb
  rw [r3] at hb
  obtain ⟨_,σ1,l1,h1,_⟩:=locH j y hL
  exact h.rel.blkL k0 b j _ r2 hb h1
 ·rcases liveH k hk1 with rfl | ⟨i,k0,rfl,r1,r2,r3⟩
  ·cases hb
  rw [r3] at hb
  exact h.rel.blkS k0 b r2 hb
 ·rcases liveH k hk1 with rfl | ⟨i,k0,rfl,r1,r2,r3⟩
  ·cases hb
  rw [r3] at hb
  exact h.rel.blkW k0 b r2 hb
 ·obtain ⟨_,σ1,l1,h1,_⟩:=locH j y hj
  obtain ⟨_,σ2,l2,h2,_⟩:=locH j' y' hj'
  exact h.rel.ρI j j' _ _ h1 h2 he
theorem exit_relF {P:Program} {s:Sig} {rvs:List ResultVar} {y:s.out.D} (h:AR F g st a w) (hr:retF P rvs s st=some y) :
  ∃ (us:List Value) (g':Gh) (stX:PSt),us.length=s.rs.length /\ us.length=rvs.length /\ (∀ (i:Nat) (x:ResultVar),rvs[i]? = some x -> ∃ y,us[i]? = some y /\ (resVal a x).run P w=.ok y w) /\ exitSt s y=some stX /\ MRel F g' stX (fun i=>us.getD i undef) w /\ g'.ρ=g.ρ:=by
 unfold retF at hr
 split at hr
 ·exact exit_rel h hr
 ·rename_i k K _
  obtain ⟨hall,hr⟩:=chk_some hr
  have hA:AR F (lendG g st (k::K)) (lendSt (k::K) (resTmps rvs) st) a w:=⟨h.size,h.defers,lend_rel (k::K) _ h.rel fun i hi=>List.all_eq_true.1 hall i (hasN_iff.1 hi)⟩
  have h2:=exit_rel hA hr
  exact h2
theorem annot_erase {A:List (Nat×Ann)}:∀ (c:Code) (k:Nat) (ac:AC) (k':Nat),annot A c k=some (ac,k')->ac.erase=c:=by
 intro c
 induction c with
 | skip=>intro k ac k' h;simp only [annot,Option.some.injEq,Prod.mk.injEq] at h;rw [<-h.1];rfl
 | region id ops d=>intro k ac k' h;simp only [annot,Option.some.injEq,Prod.mk.injEq] at h;rw [<-h.1];rfl
 | exit id=>intro k ac k' h;simp only [annot,Option.some.injEq,Prod.mk.injEq] at h;rw [<-h.1];rfl
 | ret=>intro k ac k' h;simp only [annot,Option.some.injEq,Prod.mk.injEq] at h;rw [<-h.1];rfl
 | label l=>intro k ac k' h;simp only [annot,Option.some.injEq,Prod.mk.injEq] at h;rw [<-h.1];rfl
 | goto l=>intro k ac k' h;simp only [annot,Option.some.injEq,Prod.mk.injEq] at h;rw [<-h.1];rfl
 | scope b ih=>
  intro k ac k' h
  unfold annot at h
  split at h
  ·rename_i m b' k1 h0 h1
   simp only [Option.some.injEq,Prod.mk.injEq] at h
   rw [<-h.1]
   simp only [AC.erase,ih _ _ _ h1]
  ·cases h
 | seq x y ihx ihy=>
  intro k ac k' h
  unfold annot at h
  split at h
  ·rename_i a' k1 h1
   split at h
   ·rename_i b' k2 h2
    split at h <;>
    ·simp only [Option.some.injEq,Prod.mk.injEq] at h
     rw [<-h.1]
     simp only [AC.erase,ihx _ _ _ h1,ihy _ _ _ h2]
   ·cases h
  ·cases h
 | cond c x y ihx ihy=>
  intro k ac k' h
  unfold annot at h
  split at h
  ·rename_i a' k1 h1
   split at h
   ·rename_i b' k2 h2
    simp only [Option.some.injEq,Prod.mk.injEq] at h
    rw [<-h.1]
    simp only [AC.erase,ihx _ _ _ h1,ihy _ _ _ h2]
   ·cases h
  ·cases h
 | block id b ih=>
  intro k ac k' h
  unfold annot at h
  split at h
  ·rename_i b' k1 h1
   simp only [Option.some.injEq,Prod.mk.injEq] at h
   rw [<-h.1]
   simp only [AC.erase,ih _ _ _ h1]
  ·cases h
 | loop b ih=>
  intro k ac k' h
  unfold annot at h
  split at h
  ·rename_i m b' k1 h0 h1
   simp only [Option.some.injEq,Prod.mk.injEq] at h
   rw [<-h.1]
   simp only [AC.erase,ih _ _ _ h1]
  ·cases h
 | _=>intro k ac k' h;cases h
theorem annot_hands {A:List (Nat×Ann)}:∀ (c:Code) (k:Nat) (ac:AC) (k':Nat),annot A c k=some (ac,k')->ac.hands=[]:=by
 intro c
 induction c with
 | skip=>intro k ac k' h;simp only [annot,Option.some.injEq,Prod.mk.injEq] at h;rw [<-h.1];rfl
 | region id ops d=>intro k ac k' h;simp only [annot,Option.some.injEq,Prod.mk.injEq] at h;rw [<-h.1];rfl
 | exit id=>intro k ac k' h;simp only [annot,Option.some.injEq,Prod.mk.injEq] at h;rw [<-h.1];rfl
 | ret=>intro k ac k' h;simp only [annot,Option.some.injEq,Prod.mk.injEq] at h;rw [<-h.1];rfl
 | label l=>intro k ac k' h;simp only [annot,Option.some.injEq,Prod.mk.injEq] at h;rw [<-h.1];rfl
 | goto l=>intro k ac k' h;simp only [annot,Option.some.injEq,Prod.mk.injEq] at h;rw [<-h.1];rfl
 | scope b ih=>
  intro k ac k' h
  unfold annot at h
  split at h
  ·rename_i m b' k1 h0 h1
   simp only [Option.some.injEq,Prod.mk.injEq] at h
   rw [<-h.1]
   simp only [AC.hands,ih _ _ _ h1]
  ·cases h
 | seq x y ihx ihy=>
  intro k ac k' h
  unfold annot at h
  split at h
  ·rename_i a' k1 h1
   split at h
   ·rename_i b' k2 h2
    split at h <;>
    ·simp only [Option.some.injEq,Prod.mk.injEq] at h
     rw [<-h.1]
     simp only [AC.hands,ihx _ _ _ h1,ihy _ _ _ h2,List.append_nil]
   ·cases h
  ·cases h
 | cond c x y ihx ihy=>
  intro k ac k' h
  unfold annot at h
  split at h
  ·rename_i a' k1 h1
   split at h
   ·rename_i b' k2 h2
    simp only [Option.some.injEq,Prod.mk.injEq] at h
    rw [<-h.1]
    simp only [AC.hands,ihx _ _ _ h1,ihy _ _ _ h2,List.append_nil]
   ·cases h
  ·cases h
 | block id b ih=>
  intro k ac k' h
  unfold annot at h
  split at h
  ·rename_i b' k1 h1
   simp only [Option.some.injEq,Prod.mk.injEq] at h
   rw [<-h.1]
   simp only [AC.hands,ih _ _ _ h1]
  ·cases h
 | loop b ih=>
  intro k ac k' h
  unfold annot at h
  split at h
  ·rename_i m b' k1 h0 h1
   simp only [Option.some.injEq,Prod.mk.injEq] at h
   rw [<-h.1]
   simp only [AC.hands,ih _ _ _ h1]
  ·cases h
 | _=>intro k ac k' h;cases h
theorem results_run {P:Program} {fn:Func} {us:List Value} (hl:us.length=fn.results.toList.length) (h:∀ (i:Nat) (x:ResultVar),fn.results.toList[i]? = some x -> ∃ y,us[i]? = some y /\ (resVal a x).run P w=.ok y w):(results fn a.tmps).run P w=.ok (retV us) w:=by
 have key:(results fn a.tmps).run P w=.ok (if h:(⟨us⟩:Array Value).size=1 then (⟨us⟩:Array Value)[0] else .tuple ⟨us⟩) w:=by
  unfold results
  rw [Array.mapM_eq_mapM_toList,Sem.run_bind,Sem.run_map,run_mapM fn.results.toList us (fun i x hx=>?_) hl]
  ·rfl
  obtain ⟨y,hy,hr⟩:=h i x hx
  exact ⟨y,hy,by cases x <;> exact hr⟩
 rw [key]
 match us with
 | []=>rfl
 | [_]=>rfl
 | _::_::_=>rfl
theorem fn_sound {T:Tab} (hE:E.ok T) {A:List (Nat×Ann)} {f:FuncId} {fn:Func} {s:Sig} (hf:E.P.funcs[f]? = some fn):SoundFn E.P T f s ⟨pvFn E A fn s⟩:=by
  intro F g st xs y tmf w args hT hent happ hrel hw hn hsz htm
  have hv:=appF_curry _ _ _ _ happ
  unfold pvFnL at hv
  rw [hent] at hv
  split at hv
  case h_2=>cases hv
  rename_i c st0 hb he
  injection he with he
  subst he
  split at hv
  case h_2=>cases hv
  rename_i ac k hac
  split at hv
  case h_2=>cases hv
  rename_i hgd
  simp only [Bool.and_eq_true] at hgd
  obtain ⟨⟨⟨⟨hg1,hg2⟩,hg3⟩,hg4⟩,hg5⟩:=hgd
  have hFn:=hn fn hf
  have hle:args.size<=fn.ntmps:=by rw [hsz];rw [Nat.ble_eq] at hg3;exact hg3
  have hdst:∀ d∈ac.dsts,d < F.n:=fun d hd=>by
    have:=List.all_eq_true.1 hg2 d hd
    rw [Nat.blt_eq] at this
    omega
  have htm':tm { tmps:=args++Array.replicate (fn.ntmps - args.size) undef,defers:=[] }=tmf:=by
    funext i
    rw [htm i]
    unfold tm
    simp only [Array.getD_eq_getD_getElem?,Array.getElem?_append]
    by_cases hlt:i < args.size
    · simp [hlt]
    · rw [if_neg hlt,Array.getElem?_eq_none (show args.size<=i by omega)]
      simp only [Array.getElem?_replicate,Option.getD_none]
      split <;> rfl
  have hAR:AR F g st { tmps:=args++Array.replicate (fn.ntmps - args.size) undef,defers:=[] } w:=⟨by simp;omega,rfl,by rw [htm'];exact hrel⟩
  have he:=annot_erase c 0 ac k hac
  refine calls_of_wp hf hb ?_
  have hs:=pv_sound ⟨T,hE,hT⟩ ac (by rw [annot_hands c 0 ac k hac];intro p hp;cases hp) _ st y g _ w hg1 hdst hAR hv
  rw [he] at hs
  have fin : ∀ {x a' w' g' st'}, retF E.P fn.results.toList s st' = some y -> AR F g' st' a' w' -> LftX x (· ∈ ac.dsts) (· ∈ ac.ids) g { tmps := args ++ Array.replicate (fn.ntmps - args.size) undef, defers := [] } w g' a' w' ->
      a'.defers=[] /\ ∃ v,(results fn a'.tmps).run E.P w'=.ok v w' /\ ∃ us g' st',Ending.returned v=.returned (retV us) /\ us.length=s.rs.length /\ exitSt s y=some st' /\ MRel F g' st' (fun i=>us.getD i undef) w' /\ ∀ k,isM s.ps k=true->g'.ρ k=g.ρ k:=fun {x a' w' g' st'} hr hA hl=>by
    obtain ⟨us,g2,stX,r1,r2,r3,r4,r5,r6⟩:=exit_relF hA hr
    refine ⟨hA.defers,retV us,results_run r2 r3,us,g2,stX,rfl,r1,r4,r5,fun k hk=>?_⟩
    rw [r6]
    refine hl.ρ k fun hm=>?_
    have hlt:k < s.ps.length:=by
      obtain ⟨ts,hts⟩:=isM_iff.1 hk
      exact (List.getElem?_eq_some_iff.1 hts).1
    have:=List.all_eq_true.1 hg5 k (List.mem_range.2 hlt)
    rw [hk,hasN_iff.2 hm] at this
    cases this
  refine Code.wp_mono (fun e a' w' hp=>?_) hs
  obtain ⟨x,st',g',rfl,hQ,hr,hl⟩:=hp
  cases x with
  | exit i=>cases hQ
  | normal=>exact fin hQ hr hl
  | ret=>exact fin hQ hr hl
  | goto i=>cases hQ
end
end Pv
end Go.Proofs.YtgfmfgombmpodaaGreatDoor
namespace Go.Proofs.YtgfmfgombmpodaaGreatDoor
open Go.ChangeShapes Go.WideShapes Go.ChangeAt Go.RowKit Go.Deep
open Go.ChangeMaps (open_string shut_string)
namespace Pv
set_option linter.unusedVariables false
def layS (f:TypeId->Option Ty):List Field->Nat->Option (List Ty)
 | [],_=>some []
 | x::r,o=>match Nat.beq x.offset o,f x.type with
  | true,some t=>match layS f r (o+t.size) with | some l=>some (t::l) | none=>none
  | _,_=>none
def lay1 (P:Program) (f:TypeId->Option Ty) (t:TypeId):Option Ty:=match P.underlying t with
 | some .bool=>some .bool
 | some (.int k)=>some (.int k)
 | some .string=>some .str
 | some (.slice e)=>(f e).map .sl
 | some (.array m e)=>(f e).map (.arr m)
 | some (.struct fs)=>(layS f fs.toList 0).map prs
 | _=>none
def lay (P:Program):Nat->TypeId->Option Ty
 | 0,_=>none
 | n+1,t=>match lay1 P (lay P n) t with
  | some τ=>match Nat.beq (P.cellsOf t) τ.size with | true=>some τ | false=>none
  | none=>none
theorem choose_l {α:Type} {p:Nat->α->Prop}:∀ (n:Nat),(∀ i,i < n -> ∃ y,p i y) -> ∃ l:List α,l.length=n /\ ∀ i y,l[i]? = some y->p i y
 | 0,_=>⟨[],rfl,fun i y h=>by simp at h⟩
 | n+1,h=>by
  obtain ⟨l,h1,h2⟩:=choose_l n fun i hi=>h i (by omega)
  obtain ⟨y,hy⟩:=h n (by omega)
  refine ⟨l++[y],by simp [h1],fun i z hz=>?_⟩
  rcases Nat.lt_or_ge i l.length with hlt | hge
  ·rw [List.getElem?_append_left hlt] at hz;exact h2 i z hz
  ·rw [List.getElem?_append_right hge] at hz
   cases hi:i - l.length with
   | zero=>
    rw [hi] at hz
    simp at hz
    subst hz
    rw [show i=n by omega];exact hy
   | succ k=>rw [hi] at hz;simp at hz
section
variable {H : Type} {enc : TypeId × Value -> H} {P : Program} {w : World} {C : Com} {spare : Nat -> Bool} {held : Bool}
def Opens (enc:TypeId×Value->H) (P:Program) (w:World) (C:Com) (spare:Nat->Bool) (held:Bool) (t:TypeId) (τ:Ty):Prop:=
 P.cellsOf t=τ.size /\ ∀ fuel cs x,DataW.trod enc P w 0 spare held fuel t cs=some x -> ∃ y:τ.D,RepD w C τ y cs
theorem opens_fields {f:TypeId->Option Ty} (hf:∀ t τ,f t=some τ->Opens enc P w C spare held t τ):∀ (fs:List Field) (o:Nat) (τs:List Ty) (cs:List Value),layS f fs o=some τs ->
  (∀ x∈fs,∃ n z,DataW.trod enc P w 0 spare held n x.type ((cs.drop x.offset).take (P.cellsOf x.type))=some z) -> ∃ y:(prs τs).D,RepD w C (prs τs) y ((cs.drop o).take (prs τs).size)
 | [],o,τs,cs,h,_=>by
  injection h with h
  subst h
  exact ⟨(),by rw [show (prs []).size=0 from rfl,List.take_zero];rfl⟩
 | x::r,o,τs,cs,h,hx=>by
  unfold layS at h
  split at h
  case h_2=>cases h
  rename_i t ho ht
  split at h
  case h_2=>cases h
  rename_i l hl
  injection h with h
  subst h
  have ho:=Nat.eq_of_beq_eq_true ho
  obtain ⟨y2,h2⟩:=opens_fields hf r (o+t.size) l cs hl fun z hz=>hx z (by simp [hz])
  obtain ⟨hc,hop⟩:=hf _ _ ht
  obtain ⟨n,z,hz⟩:=hx x (by simp)
  obtain ⟨y1,h1⟩:=hop _ _ _ hz
  rw [ho,hc] at h1
  cases l with
  | nil=>exact ⟨y1,h1⟩
  | cons u us=>
   refine ⟨(y1,y2),_,_,?_,h1,h2⟩
   rw [show (prs (t::u::us)).size=t.size+(prs (u::us)).size from rfl,List.take_add,List.drop_drop]
theorem lay_open (hC:∀ a u,w.cell? a=some u->C a.block a.off):∀ (n:Nat) (t:TypeId) (τ:Ty),lay P n t=some τ->Opens enc P w C spare held t τ
 | 0,_,_,h=>by cases h
 | n+1,t,τ,h=>by
  unfold lay at h
  split at h
  case h_2=>cases h
  rename_i τ' h1
  split at h
  case h_2=>cases h
  rename_i hb
  injection h with h
  subst h
  have hsz:=Nat.eq_of_beq_eq_true hb
  refine ⟨hsz,fun fuel cs x hx=>?_⟩
  unfold lay1 at h1
  split at h1
  ·rename_i ht
   injection h1 with h1
   subst h1
   obtain ⟨b,rfl,_⟩:=DataW.trod_bool ht hx
   exact ⟨b,rfl⟩
  ·rename_i k ht
   injection h1 with h1
   subst h1
   obtain ⟨q,rfl,_,hq⟩:=DataW.trod_int ht hx
   exact ⟨q,rfl,hq⟩
  ·rename_i ht
   injection h1 with h1
   subst h1
   obtain ⟨s,rfl,_,hs⟩:=DataW.trod_string ht hx
   exact ⟨bytesL s,s,rfl,rfl,hs⟩
  ·rename_i e ht
   obtain ⟨τe,he,rfl⟩:=Option.map_eq_some_iff.1 h1
   obtain ⟨hce,hop⟩:=lay_open hC n e τe he
   rcases open_slice ht hx with ⟨rfl,_⟩ | ⟨a,len,cap,m,n',D,Pl,rfl,_,hl,hm,hmm,_,hall⟩
   ·exact ⟨([]:List τe.D),none,0,0,rfl,rfl,Nat.le_refl _,by unfold maxLen;omega,fun i x hi=>by simp [gt] at hi⟩
   ·have hlm:len<=m:=by rw [hmm];split <;> omega
    obtain ⟨l,hl1,hl2⟩:=choose_l (p:=fun i (y:τe.D)=>∃ us,us.length=τe.size /\ (∀ j u,us[j]? = some u->w.cell? (a.add (i*τe.size+j))=some u /\ C a.block (a.off+(i*τe.size+j))) /\ RepD w C τe y us) len fun i hi=>by
     obtain ⟨cs',g1,g2⟩:=hall i (by omega)
     obtain ⟨y,hy⟩:=hop _ _ _ g2
     refine ⟨y,cs',hy.len,fun j u hj=>?_,hy⟩
     have hj':j < P.cellsOf e:=by
      have:=(List.getElem?_eq_some_iff.1 hj).1
      rw [hy.len] at this
      omega
     have hcell:=((World.cells?_some g1).2.2 j hj').trans hj
     rw [add_add,hce] at hcell
     refine ⟨hcell,?_⟩
     have:=hC _ _ hcell
     rwa [add_block,add_off] at this
    refine ⟨l,some a,len,cap,rfl,hl1,hl,hm,fun i y hi=>?_⟩
    obtain ⟨us,g1,g2,g3⟩:=hl2 i y hi
    exact ⟨a,us,rfl,g1,g2,g3⟩
  ·rename_i m e ht
   obtain ⟨τe,he,rfl⟩:=Option.map_eq_some_iff.1 h1
   obtain ⟨hce,hop⟩:=lay_open hC n e τe he
   obtain ⟨xs,m',_,_,hcs,hxl,hall⟩:=DataW.trod_array ht hx
   obtain ⟨l,hl1,hl2⟩:=choose_l (p:=fun i (y:τe.D)=>RepD w C τe y ((cs.drop (i*τe.size)).take τe.size)) m fun i hi=>by
    have:=hall i hi
    rw [List.getElem?_eq_getElem (by omega),hce] at this
    exact hop _ _ _ this
   exact ⟨l,hl1,by rw [hcs,hsz];rfl,fun i y hi=>hl2 i y hi⟩
  ·rename_i fs ht
   obtain ⟨τs,hs,rfl⟩:=Option.map_eq_some_iff.1 h1
   obtain ⟨xs,m',_,_,hcs,hxl,hall⟩:=DataW.trod_struct ht hx
   obtain ⟨y,hy⟩:=opens_fields (fun t τ h=>lay_open hC n t τ h) fs.toList 0 τs cs hs fun f hf=>by
    obtain ⟨i,hi,rfl⟩:=List.mem_iff_getElem.1 hf
    have hi':i < fs.size:=by simpa using hi
    have:=hall i fs[i] (by simp [hi'])
    rw [List.getElem?_eq_getElem (by omega)] at this
    exact ⟨m',_,by simpa using this⟩
   rw [List.drop_zero,List.take_of_length_le (by omega)] at hy
   exact ⟨y,hy⟩
  ·cases h1
theorem okWide_array {m:Nat} {e t:TypeId} {v:Value} {r:Reach} {b0:Nat} (ht:P.underlying t=some (.array m e)) (h:Value.okWide P w r b0 t v):∃ cs,v=.agg cs /\ cs.size=P.cellsOf t:=by
 simp only [Value.okWide,ht] at h
 obtain ⟨cs,h1,h2,_⟩:=h
 exact ⟨cs,h1,h2⟩
theorem arg_open (hC:∀ a u,w.cell? a=some u->C a.block a.off) {n:Nat} {t:TypeId} {τ:Ty} {v:Value} {d:DataW H} {ps:List MemPlace} {r:Reach} {b0:Nat} (hl:lay P n t=some τ) (hval:Value.okWide P w r b0 t v) (hd:DataW.Trod enc P w 0 spare held t v d ps) :
  ∃ (y:τ.D) (cs:List Value),RepD w C τ y cs /\ match isAg P t with | true=>v=.agg ⟨cs⟩ | false=>cs=[v]:=by
 obtain ⟨fuel,hf⟩:=hd
 obtain ⟨y,hy⟩:=(lay_open (enc:=enc) (spare:=spare) (held:=held) hC n t τ hl).2 _ _ _ hf
 refine ⟨y,_,hy,?_⟩
 cases n with
 | zero=>cases hl
 | succ n=>
  unfold lay at hl
  split at hl
  case h_2=>cases hl
  rename_i τ' h1
  unfold lay1 at h1
  unfold isAg
  split at h1
  ·rename_i ht
   obtain ⟨b,rfl⟩:=okWide_bool ht hval
   simp [ht,Value.cells]
  ·rename_i k ht
   obtain ⟨b,rfl⟩:=okWide_int ht hval
   simp [ht,Value.cells]
  ·rename_i ht
   obtain ⟨b,rfl⟩:=okWide_string ht hval
   simp [ht,Value.cells]
  ·rename_i e ht
   obtain ⟨a,n,c,rfl⟩:=okWide_slice ht hval
   simp [ht,Value.cells]
  ·rename_i m e ht
   obtain ⟨cs,rfl,_⟩:=okWide_array ht hval
   simp [ht,Value.cells]
  ·rename_i fs ht
   obtain ⟨cs,rfl,_⟩:=okWide_struct ht hval
   simp [ht,Value.cells]
  ·cases h1
end
def ltOf:Leaf->LT
 | .d t _=>.d t
 | .own _ E e _=>.own E e
def datOf:Leaf->Dat
 | .d t x=>⟨t,x⟩
 | .own _ _ e l=>⟨.sl e,l⟩
theorem appF_c {α:Type} {t:Ty} {ts:List Ty} {f:insT (t::ts) (Option α)} {x:t.D} {xs:List Dat} {r:Option α} (h:appF ts (f x) xs=r):appF (t::ts) f (⟨t,x⟩::xs)=r:=by
 show (match castD t x with | some a=>appF ts (f a) xs | none=>none)=_
 rw [castD_self];exact h
theorem appF_n {α:Type} {f r:Option α} (h:f=r):appF [] f []=r:=h
structure Arg where
 ag:Bool
 ls:List Leaf
 v:Value
def Arg.par (a:Arg):Par:=.v a.ag (a.ls.map ltOf)
def isDs (ls:List Leaf):Bool:=ls.all isD
theorem mk_ds {lab:Nat->Tok}:∀ {ls:List Leaf} (j:Nat),isDs ls=true->mkLs lab (ls.map ltOf) j (ls.map datOf)=some ls
 | [],_,_=>rfl
 | .d t x::ls,j,h=>by
  have h':isDs ls=true:=by simp [isDs] at h ⊢;exact h.2
  show (match castD t x,mkLs lab (ls.map ltOf) (j+1) (ls.map datOf) with | some a,some r=>some (Leaf.d t a::r) | _,_=>none)=_
  rw [castD_self,mk_ds (j+1) h']
 | .own _ _ _ _::ls,j,h=>by simp [isDs,isD] at h
theorem isM_args:∀ (al:List Arg) (i:Nat),isM (al.map Arg.par) i=false
 | [],0=>rfl
 | [],_+1=>rfl
 | a::al,0=>rfl
 | a::al,i+1=>isM_args al i
theorem parK_args:∀ (al:List Arg) (ls:List Leaf) (i:Nat),parK (al.map Arg.par) ls i=none
 | [],_,0=>rfl
 | [],_,_+1=>rfl
 | a::al,_,0=>rfl
 | a::al,ls,i+1=>parK_args al _ i
theorem parP_args:∀ (al:List Arg) (rest:List Leaf) (i:Nat),(∀ a,al[i]? = some a->parP (al.map Arg.par) (al.flatMap Arg.ls++rest) i=.w a.ag a.ls) /\ (al[i]? = none->parP (al.map Arg.par) (al.flatMap Arg.ls++rest) i=.raw undef)
 | [],_,0=>⟨fun a h=>by simp at h,fun _=>rfl⟩
 | [],_,_+1=>⟨fun a h=>by simp at h,fun _=>rfl⟩
 | a::al,rest,0=>by
  refine ⟨fun b h=>?_,fun h=>by simp at h⟩
  simp at h
  subst h
  show PV.w a.ag ((a.ls++al.flatMap Arg.ls++rest).take (a.ls.map ltOf).length)=_
  rw [List.length_map,List.append_assoc,List.take_left]
 | a::al,rest,i+1=>by
  have:=parP_args al rest i
  have e:parP ((a::al).map Arg.par) ((a::al).flatMap (·.ls)++rest) (i+1)=parP (al.map Arg.par) (al.flatMap Arg.ls++rest) i:=by
   show parP (al.map Arg.par) ((a.ls++al.flatMap Arg.ls++rest).drop (a.ls.map ltOf).length) i=_
   rw [List.length_map,List.append_assoc,List.drop_left]
  rw [e]
  simpa using this
section
variable {P : Program} {W : World}
def C00 (W:World):Com:=fun b _=>b < W.heap.size
theorem c00_cell (W:World) (a:Addr) (u:Value) (h:W.cell? a=some u):C00 W a.block a.off:=cell_lt h
def F00 (W:World) (n:Nat):Fr:=⟨n,W,C00 W,fun _ _=>False⟩
def G00 (W:World):Gh:=⟨C00 W,fun _=>none,fun _=>(0,0),fun _ _=>[]⟩
def Arg.ok (W:World) (a:Arg):Prop:=isDs a.ls=true /\ ∀ (F:Fr) (g:Gh) (O:Tok->Bool),g.C=C00 W->RelV F g W O a.v a.ag a.ls
theorem Arg.mk_ok {τ:Ty} {y:τ.D} {cs:List Value} {ag:Bool} {v:Value} (h:RepD W (C00 W) τ y cs) (hv:match ag with | true=>v=.agg ⟨cs⟩ | false=>cs=[v]):(Arg.mk ag (flat τ y) v).ok W:=by
 refine ⟨List.all_eq_true.2 (flat_isD τ y),fun F g O hg=>⟨cs,repLs_flat (by rw [hg];exact h),?_⟩⟩
 cases ag <;> exact hv
theorem args_rel {al:List Arg} {rs:List (Bool×List LT)} (h:∀ a∈al,a.ok W) (n:Nat):∃ st,entrySt ⟨al.map Arg.par,rs⟩ (al.flatMap fun a=>a.ls.map datOf)=some st /\ MRel (F00 W n) (G00 W) st (fun i=>(al.map Arg.v).getD i undef) W:=by
  have hds:isDs (al.flatMap Arg.ls)=true:=by
    refine List.all_eq_true.2 fun l hl=>?_
    obtain ⟨a,ha,hl⟩:=List.mem_flatMap.1 hl
    exact List.all_eq_true.1 (h a ha).1 l hl
  have e1:parsT (al.map Arg.par)=(al.flatMap Arg.ls).map ltOf:=by
    unfold parsT
    rw [List.flatMap_map,List.map_flatMap]
    rfl
  have e2:(al.flatMap fun a=>a.ls.map datOf)=(al.flatMap Arg.ls).map datOf:=by rw [List.map_flatMap]
  refine ⟨_,by unfold entrySt;simp only [e1,e2,mk_ds 0 hds];rfl,?_⟩
  refine ⟨⟨Nat.le_refl _,rfl,rfl,rfl,fun _ _ _=>rfl,fun b cs T fr _ hb=>⟨cs,fr,hb,rfl,fun _ _=>rfl⟩,fun _ _ _ _=>Iff.rfl,fun _ _ h=>h,fun _ _ h=>h⟩,fun i=>?_,fun k σ ls hL=>?_,fun k σ ls hL=>?_,fun t b hb=>(by cases hb),fun i t want ag l hs=>?_,fun d hd=>(by cases hd),fun i k hk=>?_,rfl,fun k k' b _ _ hb=>(by cases hb),fun k b j x _ hb=>(by cases hb),fun k b _ hb=>(by cases hb),fun k b _ hb=>(by cases hb),fun j j' x x' hj=>?_⟩
  · show RelP _ _ W _ _ _ (match isM (al.map Arg.par) i with | true=>PV.loc i 0 | false=>parP (al.map Arg.par) (al.flatMap Arg.ls) i)
    rw [isM_args]
    have:=parP_args al [] i
    rw [List.append_nil] at this
    cases ha:al[i]? with
    | none=>
      show RelP _ _ W _ _ _ (parP (al.map Arg.par) (al.flatMap Arg.ls) i)
      rw [this.2 ha]
      show (al.map Arg.v).getD i undef=undef
      simp [List.getD_eq_getElem?_getD,ha]
    | some a=>
      show RelP _ _ W _ _ _ (parP (al.map Arg.par) (al.flatMap Arg.ls) i)
      rw [this.1 a ha]
      have e:(al.map Arg.v).getD i undef=a.v:=by simp [List.getD_eq_getElem?_getD,ha]
      show RelV _ _ W _ ((al.map Arg.v).getD i undef) a.ag a.ls
      rw [e]
      exact (h a (List.mem_of_getElem? ha)).2 _ _ _ rfl
  all_goals first
    | (have hL' : (match parK (al.map Arg.par) (al.flatMap Arg.ls) k with | some l => some ((0 : Nat), l) | none => none) = some (σ, ls) := hL
       rw [parK_args] at hL'
       cases hL')
    | (have hL' : (match parK (al.map Arg.par) (al.flatMap Arg.ls) j with | some l => some ((0 : Nat), l) | none => none) = some x := hj
       rw [parK_args] at hL'
       cases hL')
    | skip
  · have hs':(match isM (al.map Arg.par) i with | true=>PV.loc i 0 | false=>parP (al.map Arg.par) (al.flatMap Arg.ls) i)=.spec t want ag l:=hs
    rw [isM_args] at hs'
    have:=parP_args al [] i
    rw [List.append_nil] at this
    have hs2:parP (al.map Arg.par) (al.flatMap Arg.ls) i=.spec t want ag l:=hs'
    cases ha:al[i]? with
    | none=>rw [this.2 ha] at hs2;cases hs2
    | some a=>rw [this.1 a ha] at hs2;cases hs2
  · have hs':k∈keyP (match isM (al.map Arg.par) i with | true=>PV.loc i 0 | false=>parP (al.map Arg.par) (al.flatMap Arg.ls) i):=hk
    rw [isM_args] at hs'
    have:=parP_args al [] i
    rw [List.append_nil] at this
    have hs2:k∈keyP (parP (al.map Arg.par) (al.flatMap Arg.ls) i):=hs'
    cases ha:al[i]? with
    | none=>rw [this.2 ha] at hs2;cases hs2
    | some a=>rw [this.1 a ha] at hs2;cases hs2
theorem tab_start {T:Tab} {n:Nat} (hT:∀ p∈T,∃ ty fr,W.heap[p.1]? = some (.cells p.2 ty fr)):TabF T (F00 W n):=fun p hp=>by
 obtain ⟨ty,fr,h⟩:=hT p hp
 refine ⟨⟨ty,fr,h⟩,fun i hi=>⟨?_,fun hx=>hx⟩⟩
 have:W.cell? ⟨p.1,i,none⟩=some p.2[i]:=by rw [cell_at h,Array.getElem?_eq_getElem hi]
 exact c00_cell W ⟨p.1,i,none⟩ _ this
theorem law_calls {T:Tab} (hT:∀ p∈T,∃ ty fr,W.heap[p.1]? = some (.cells p.2 ty fr)) {f:FuncId} {fd:Func} {s:Sig} {fn:s.Fn} {al:List Arg} {y:s.out.D} (hS:SoundFn P T f s fn) (hps:s.ps=al.map Arg.par) (hrs:s.rs.length=1) (hf:P.funcs[f]? = some fd) (hok:∀ a∈al,a.ok W)
  (happ:appF ((parsT s.ps).map LT.ty) fn.f (al.flatMap fun a=>a.ls.map datOf)=some y) (hex:∀ st',exitSt s y=some st'->st'.φ 0=.w false [.d .bool true]):Calls P f ⟨al.map Arg.v⟩ W fun e W'=>e=.returned (.bool true) /\ Below W.heap.size W W':=by
 obtain ⟨ps,rs⟩:=s
 have hps:ps=al.map Arg.par:=hps
 subst hps
 obtain ⟨st,h1,h2⟩:=args_rel (rs:=rs) hok fd.ntmps
 refine (hS (F00 W fd.ntmps) (G00 W) st _ y _ W ⟨al.map Arg.v⟩ (tab_start hT) h1 happ h2 rfl (fun fd' h=>by rw [hf] at h;cases h;rfl) (by simp) (fun i=>by simp [Array.getD_eq_getD_getElem?,List.getD_eq_getElem?_getD])).mono fun e W' ⟨us,g',st',q1,q2,q3,q4,_⟩=>?_
 have hlen:us.length=1:=q2.trans hrs
 obtain ⟨u,rfl⟩:∃ u,us=[u]:=by
  match us,hlen with
  | [u],_=>exact ⟨u,rfl⟩
 have h0:=q4.slots 0
 rw [hex st' q3] at h0
 obtain ⟨cs,g1,g2⟩:=h0
 obtain ⟨c1,c2,rfl,g3,g4⟩:=g1
 have g3:c1=[.bool true]:=g3
 have g4:c2=[]:=g4
 subst g3;subst g4
 have g2:[Value.bool true]++[]=[u]:=g2
 injection g2 with g2
 have hu:u=.bool true:=g2.symm
 subst hu
 refine ⟨q1,q4.fr.os,q4.fr.tape,q4.fr.output,q4.fr.size,fun k hk=>q4.fr.old k hk fun _ h=>h⟩
end
section
variable {H : Type} {enc : TypeId × Value -> H} {P : Program}
theorem post_of_below {f:Func} {s:ChangeSpec} {apart fresh handsOn again:Bool} {W W':World} {args:Array Value} {v:Value} {ds gs:List (DataW H)} {before pa pv:List MemPlace}
  (hW:DataW.Whole enc P f.params.toList s.vars apart W args.toList ds gs before)
  (hres:∀ (b:Nat) (sp:Nat->Bool) (hd:Bool),DataW.TrodAll enc P W' b sp hd f.resultTypes.toList (v.resultList f.resultTypes.size) (s.fn H (ds++gs)).results [])
  (hargs:∀ sp:Nat->Bool,(∀ p∈before,sp p.block=true)->DataW.TrodAll enc P W' 0 sp true f.params.toList args.toList (s.fn H (ds++gs)).args pa)
  (hvars:∀ sp:Nat->Bool,(∀ p∈before,sp p.block=true)->DataW.TrodVars enc P W' sp s.vars (s.fn H (ds++gs)).vars pv)
  (hps:before=pa++pv) (hb:Below W.heap.size W W')
  (hok:∀ (j:Nat) (t:TypeId) (r:Value),f.resultTypes[j]? = some t->(v.resultList f.resultTypes.size)[j]? = some r->Value.okWide P W' .any 0 t r) :
  s.post enc P f apart fresh handsOn again W args v W':=by
 have hlt:∀ p∈before,p.block < W.heap.size:=fun p hp=>hW.lt p hp
 have hold:∀ p∈before,(fun b=>decide (b < W.heap.size)) p.block=true:=fun p hp=>by simpa using hlt p hp
 refine ⟨ds,gs,before,[],pa,pv,hW,hres _ _ _,hargs _ hold,hvars _ hold,World.keptBut_mono (fun p hp=>⟨hp,?_⟩) (hb.frame (· ∈ before)),fun _=>?_⟩
 ·rw [hps,List.mem_append] at hp
  exact Or.inr hp
 ·obtain ⟨_,_,_,_,_,hz,hn⟩:=hW
  refine ⟨hok,_,_,([]++pa)++pv,⟨[]++pa,pv,trodAll_append (hargs _ (fun _ _=>rfl)) (hres _ _ _),hvars _ (fun _ _=>rfl),rfl,?_,?_⟩,?_⟩
  ·intro b off hp
   have hin:MemPlace.cell b off∈before:=by rw [hps];simpa using hp
   rw [hb.frozen (hlt _ hin)]
   exact hz b off hin
  ·intro ha
   have:=hn ha
   rw [hps] at this
   simpa using this
  ·intro p hp _
   rw [hps]
   simpa using hp
theorem trodAll_stays (hl:laidOutB P=true) {W W':World} (hb:Below W.heap.size W W') {sp:Nat->Bool}:∀ {ts:List TypeId} {vs:List Value} {ds:List (DataW H)} {ps:List MemPlace},
  (ts.all fun t=>P.readableRec t&&decide (t < P.types.size))=true->DataW.TrodAll enc P W 0 (fun _=>true) true ts vs ds ps->(∀ p∈ps,p.block < W.heap.size)->(∀ p∈ps,sp p.block=true) ->
  DataW.TrodAll enc P W' 0 sp true ts vs ds ps
 | [],vs,ds,ps,_,h,_,_=>by
  obtain ⟨rfl,rfl,rfl⟩:=trodAll_nil h
  exact h
 | t::ts,vs,ds,ps,ht,h,hlt,hsp=>by
  obtain ⟨v,vs',d,ds',p,q,rfl,rfl,rfl,h1,h2⟩:=trodAll_cons h
  simp only [List.all_cons,Bool.and_eq_true,decide_eq_true_eq] at ht
  exact ⟨p,q,WideElems.Trod_stays hl ht.1.1 ht.1.2 h1 (fun x hx=>hb.same (hlt x (by simp [hx]))) (fun x hx=>hsp x (by simp [hx])),
   trodAll_stays hl hb ht.2 h2 (fun x hx=>hlt x (by simp [hx])) (fun x hx=>hsp x (by simp [hx])),rfl⟩
theorem law_post {tb:TypeId} {f:Func} {s:ChangeSpec} {fresh handsOn again:Bool} {W W':World} {args:Array Value} {ds:List (DataW H)} {before:List MemPlace}
  (hv:s.vars=[]) (hrt:f.resultTypes = #[tb]) (hb:P.underlying tb=some .bool) (hl:laidOutB P=true) (hp:(f.params.toList.all fun t=>P.readableRec t&&decide (t < P.types.size))=true)
  (hW:DataW.Whole enc P f.params.toList s.vars false W args.toList ds [] before) (hfn:(s.fn H (ds++[])).results=[.lit (.bool true)]) (hfa:(s.fn H (ds++[])).args=ds) (hfv:(s.fn H (ds++[])).vars=[])
  (hbel:Below W.heap.size W W'):s.post enc P f false fresh handsOn again W args (.bool true) W':=by
 have hlt:∀ p∈before,p.block < W.heap.size:=fun p hp=>hW.lt p hp
 have hW2:=hW
 obtain ⟨p,q,hA,hV,hpq,_,_⟩:=hW2
 rw [hv] at hV
 obtain ⟨_,rfl⟩:=trodVars_none hV
 have hpq':before=p:=by simpa using hpq
 subst hpq'
 refine post_of_below (pa:=before) (pv:=[]) hW ?_ (fun sp hsp=>?_) (fun sp _=>?_) (by simp) hbel ?_
 ·intro b sp hd
  rw [hfn,hrt]
  exact trodAll_cons_mk (shut_bool hb _) trodAll_mk0
 ·rw [hfa];exact trodAll_stays hl hbel hp hA hlt hsp
 ·rw [hfv,hv];rfl
 ·exact ok_one hrt rfl (okWide_bool_mk hb _)
end
end Pv
end Go.Proofs.YtgfmfgombmpodaaGreatDoor
namespace Go.Proofs.YtgfmfgombmpodaaGreatDoor
open Go.RowKit
namespace Pv
set_option linter.unusedVariables false
section
variable {F : Fr} {g : Gh} {st st' : PSt} {tmf : Nat -> Value} {w w' : World}
theorem appF_inv_c {α:Type} {t:Ty} {ts:List Ty} {f:insT (t::ts) (Option α)} {xs:List Dat} {y:α} (h:appF (t::ts) f xs=some y):∃ x xs',xs=⟨t,x⟩::xs' /\ appF ts (f x) xs'=some y:=by
 cases xs with
 | nil=>cases h
 | cons x xs'=>
  have h':(match castD t x.2 with | some a=>appF ts (f a) xs' | none=>none)=some y:=h
  split at h'
  ·rename_i a ha
   exact ⟨a,xs',by rw [<-castD_sig ha],h'⟩
  ·cases h'
theorem appF_inv_n {α:Type} {f:Option α} {xs:List Dat} {y:α} (h:appF [] f xs=some y):xs=[] /\ f=some y:=by
 cases xs with
 | nil=>exact ⟨rfl,h⟩
 | cons x xs'=>cases h
theorem Frame.below {C:Com} (h:Frame F C w) (hb:Below w.heap.size w w'):Frame F C w':=
 ⟨Nat.le_trans h.size hb.size,hb.os.trans h.os,hb.tape.trans h.tape,hb.output.trans h.output,fun b hlt hx=>(hb.block b (Nat.lt_of_lt_of_le hlt h.size)).trans (h.old b hlt hx),
  fun b cs T fr hlt hc=>by
   obtain ⟨cs',fr',h1,h2,h3⟩:=h.shape b cs T fr hlt hc
   exact ⟨cs',fr',(hb.block b (Nat.lt_of_lt_of_le hlt h.size)).trans h1,h2,h3⟩,h.com,h.mono,fun b o hc=>Nat.lt_of_lt_of_le (h.lim b o hc) hb.size⟩
theorem mrel_out (h:MRel F g st tmf w) (hb:Below w.heap.size w w') {t:Ty} {x:t.D} {u:Value} (hu:RepD w' g.C t x [u]) (h0:st'.φ 0=.w false [.d t x]) (h1:∀ i,st'.φ (i+1)=.dead) (hL:∀ k,st'.L k=none) (hO:∀ k,st'.O k=true->k=.zero) (hkn:st'.kn=[]) (hfr:st'.fr=[]) :
  MRel F ⟨g.C,fun _=>none,g.ρ,fun _ _=>[]⟩ st' (fun i=>[u].getD i undef) w':=by
 refine ⟨h.fr.below hb,fun i=>?_,fun k σ ls hl=>?_,fun k σ ls hl=>?_,fun t b hk=>?_,fun i t want ag ls hs=>?_,fun d hd=>?_,fun i k hk=>?_,rfl,fun k k' b _ _ hb=>(by cases hb),fun k b j x _ hb=>(by cases hb),fun k b _ hb=>(by cases hb),fun k b _ hb=>(by cases hb),fun j j' x x' hj=>?_⟩
 ·cases i with
  | zero=>rw [h0];exact ⟨[u],⟨[u],[],rfl,hu,rfl⟩,rfl⟩
  | succ i=>rw [h1];trivial
 ·rw [hL] at hl;cases hl
 ·rw [hL] at hl;cases hl
 ·rw [hkn] at hk;cases hk
 ·cases i with
  | zero=>rw [h0] at hs;cases hs
  | succ i=>rw [h1] at hs;cases hs
 ·rw [hfr] at hd;cases hd
 ·cases i with
  | zero=>rw [h0] at hk;cases hk
  | succ i=>rw [h1] at hk;cases hk
 ·rw [hL] at hj;cases hj
theorem rel_bytes {O:Tok->Bool} {u:Value} {l:List Int} (h:RelP F g w O tmf u (.w false [.d (.sl (.int .u8)) l])):∃ a n c,u=.slice a n c /\ l.length=n /\ n<=c /\ c<=maxLen /\ (∀ x∈l,0<=x /\ x < 256) /\ ∀ (i:Nat) (x:Int),l[i]? = some x -> ∃ ad,a=some ad /\ w.cell? (ad.add i)=some (.int .u8 x):=by
 obtain ⟨cs,⟨c1,c2,rfl,h1,h2⟩,h3⟩:=h
 have h2:c2=[]:=h2
 subst h2
 obtain ⟨a,n,c,e,h4,h5,h6,h7⟩:=h1
 have h3:c1++[]=[u]:=h3
 rw [List.append_nil,e] at h3
 injection h3 with h3
 refine ⟨a,n,c,h3.symm,h4,h5,h6,fun x hx=>?_,fun i x hi=>?_⟩
 ·obtain ⟨i,hi,rfl⟩:=List.mem_iff_getElem.1 hx
  obtain ⟨ad,us,e1,e2,e3,e4⟩:=h7 i l[i] (List.getElem?_eq_getElem hi)
  have hw:(Lit.int .u8 l[i]).wf=true:=e4.2
  simp [Lit.wf,IntKind.min,IntKind.max,IntKind.signed,IntKind.bits] at hw
  omega
 ·obtain ⟨ad,us,e1,e2,e3,e4⟩:=h7 i x hi
  have e5:us=[.int .u8 x]:=e4.1
  have:=(e3 0 (.int .u8 x) (by rw [e5];rfl)).1
  rw [show i*(Ty.int .u8).size+0=i by show i*1+0=i;omega] at this
  exact ⟨ad,e1,this⟩
end
theorem appF_bot {α:Type}:∀ (ts:List Ty) (xs:List Dat),appF ts (botF (α:=α) ts) xs=none
 | [],[]=>rfl
 | [],_::_=>rfl
 | _::_,[]=>rfl
 | t::ts,x::xs=>by
  show (match castD t x.2 with | some a=>appF ts (botF ts) xs | none=>none)=none
  cases castD t x.2 with
  | none=>rfl
  | some a=>exact appF_bot ts xs
def Par.isv:Par->Bool
 | .v _ _=>true
 | .m _=>false
def exitO (s:Sig):Tok->Bool:=fun t=>hasT (.zero::labs (Tok.hd 0) s.outs 0) t
theorem isM_v:∀ {ps:List Par} (i:Nat),ps.all Par.isv=true->isM ps i=false
 | [],_,_=>rfl
 | .v _ _::_,0,_=>rfl
 | .v _ _::ps,i+1,h=>isM_v (ps:=ps) i (by simpa [Par.isv] using h)
 | .m _::_,_,h=>by simp [Par.isv] at h
theorem inoutAt_v:∀ {ps:List Par} {ls:List Leaf} (i:Nat),ps.all Par.isv=true->inoutAt ps ls i=none
 | [],_,_,_=>rfl
 | .v _ _::_,_,0,_=>rfl
 | .v _ _::ps,ls,i+1,h=>inoutAt_v (ps:=ps) i (by simpa [Par.isv] using h)
 | .m _::_,_,_,h=>by simp [Par.isv] at h
theorem resAt_w:∀ {rs:List (Bool×List LT)} {ls:List Leaf} (i:Nat),(∃ ag os,resAt rs ls i=.w ag os) \/ resAt rs ls i=.dead
 | [],_,_=>.inr rfl
 | (_,_)::_,_,0=>.inl ⟨_,_,rfl⟩
 | (_,_)::rs,ls,i+1=>resAt_w (rs:=rs) i
theorem sound_of {P:Program} {T:Tab} {f:FuncId} {s:Sig} {fn:s.Fn} (hp:s.ps.all Par.isv=true)
  (H:∀ (F:Fr) (g:Gh) (O:Tok->Bool) (xs:List Dat) (ls:List Leaf) (y:s.out.D) (tmf:Nat->Value) (w:World) (args:Array Value),(∀ p∈T,∃ ty fr,w.heap[p.1]? = some (.cells p.2 ty fr))->F.w0=w->(∀ b o,g.C b o->b < w.heap.size)->mkLs (Tok.hd 0) (parsT s.ps) 0 xs=some ls->appF ((parsT s.ps).map LT.ty) fn.f xs=some y->args.size=s.ps.length ->
   (∀ i,RelP F g w O tmf (args.getD i undef) (parP s.ps ls i))->Calls P f args w fun e w'=>∃ us os C' blk',e=.returned (retV us) /\ us.length=s.rs.length /\ mkLs (Tok.hd 0) s.outs 0 (unpackD (s.outs.map LT.ty) y)=some os /\ Below w.heap.size w w' /\
    (∀ b o,b < w.heap.size->(C' b o↔g.C b o)) /\ (∀ b o,C' b o->b < w'.heap.size) /\ blk' .zero=none /\ (∀ k b,blk' k=some b->w.heap.size<=b /\ b < w'.heap.size) /\ (∀ k k' b,blk' k=some b->blk' k'=some b->k=k') /\
    ∀ i,i < s.rs.length->RelP F ⟨C',blk',g.ρ,fun _ _=>[]⟩ w' (exitO s) tmf (us.getD i undef) (resAt s.rs os i)):SoundFn P T f s fn:=by
 intro F g st xs y tmf w args hT hent happ hrel hw hn hsz htm
 unfold entrySt at hent
 split at hent
 case h_1=>cases hent
 rename_i ls hls
 injection hent with hent
 have hφ:∀ i,st.φ i=parP s.ps ls i:=fun i=>by
  rw [<-hent]
  show (match isM s.ps i with | true=>PV.loc i 0 | false=>parP s.ps ls i)=_
  rw [isM_v i hp]
 refine (H F g st.O xs ls y tmf w args (fun p hp=>(tab_now hT hrel.fr p hp).1) hw hrel.fr.lim hls happ hsz fun i=>?_).mono ?_
 ·have:=hrel.slots i
  rw [hφ,htm] at this
  exact this
 ·rintro e w' ⟨us,os,C',blk',he,hus,hos,hbel,hC,hlim,hb0,hbk,hbi,hres⟩
  refine ⟨us,⟨C',blk',g.ρ,fun _ _=>[]⟩,⟨resAt s.rs os,fun _=>none,exitO s,[],[],[]⟩,he,hus,?_,?_,fun k hk=>absurd ((isM_v k hp).symm.trans hk) (by decide)⟩
  ·unfold exitSt
   rw [hos]
   show some (PSt.mk (resAt s.rs os) (fun k=>match inoutAt s.ps (os.drop s.nres) k with | some l=>some ((0:Nat),l) | none=>none) (exitO s) [] [] [])=some (PSt.mk (resAt s.rs os) (fun _=>none) (exitO s) [] [] [])
   congr 2
   funext k
   rw [inoutAt_v k hp]
  ·have hfr:=hrel.fr
   have h00:F.w0.heap.size<=w.heap.size:=hfr.size
   refine ⟨?_,fun i=>?_,fun k σ ls hl=>(by cases hl),fun k σ ls hl=>(by cases hl),fun t b hk=>(by cases hk),fun i t want ag ls hs=>?_,fun d hd=>(by cases hd),fun i k hk=>?_,hb0,fun k k' b _ _ h1 h2=>hbi k k' b h1 h2,fun k b j x _ _ hj=>(nomatch hj),fun k b _ h=>(hbk k b h).2,fun k b _ h=>.inl (Nat.le_trans h00 (hbk k b h).1),fun j j' x x' hj=>(nomatch hj)⟩
   ·have hf2:=hfr.below hbel
    refine ⟨hf2.size,hf2.os,hf2.tape,hf2.output,hf2.old,hf2.shape,fun b o hb hx=>?_,fun b o h=>?_,hlim⟩
    ·exact (hC b o (Nat.lt_of_lt_of_le hb h00)).trans (hfr.com b o hb hx)
    ·have hgc:=hfr.mono b o h
     exact (hC b o (hfr.lim b o hgc)).2 hgc
   ·show RelP F ⟨C',blk',g.ρ,fun _ _=>[]⟩ w' (exitO s) (fun i=>us.getD i undef) (us.getD i undef) (resAt s.rs os i)
    rcases Nat.lt_or_ge i s.rs.length with hi | hi
    ·have h:=hres i hi
     rcases resAt_w (rs:=s.rs) (ls:=os) i with ⟨ag,os',e⟩ | e
     ·rw [e] at h ⊢;exact h
     ·rw [e];trivial
    ·rw [resAt_out hi];trivial
   ·have hs:resAt s.rs os i=.spec t want ag ls:=hs
    rcases resAt_w (rs:=s.rs) (ls:=os) i with ⟨ag,os',e⟩ | e
    ·rw [e] at hs;cases hs
    ·rw [e] at hs;cases hs
   ·have hk:k∈keyP (resAt s.rs os i):=hk
    rcases resAt_w (rs:=s.rs) (ls:=os) i with ⟨ag,os',e⟩ | e
    ·rw [e] at hk;cases hk
    ·rw [e] at hk;cases hk
theorem sound_d {P:Program} {T:Tab} {f:FuncId} {s:Sig} {fn:s.Fn} (hp:s.ps.all Par.isv=true)
  (H:∀ (F:Fr) (g:Gh) (O:Tok->Bool) (xs:List Dat) (ls:List Leaf) (y:s.out.D) (tmf:Nat->Value) (w:World) (args:Array Value),(∀ p∈T,∃ ty fr,w.heap[p.1]? = some (.cells p.2 ty fr))->mkLs (Tok.hd 0) (parsT s.ps) 0 xs=some ls->appF ((parsT s.ps).map LT.ty) fn.f xs=some y->args.size=s.ps.length ->
   (∀ i,RelP F g w O tmf (args.getD i undef) (parP s.ps ls i))->Calls P f args w fun e w'=>∃ us os,e=.returned (retV us) /\ us.length=s.rs.length /\ mkLs (Tok.hd 0) s.outs 0 (unpackD (s.outs.map LT.ty) y)=some os /\ Below w.heap.size w w' /\
    ∀ i,i < s.rs.length->RelP F ⟨g.C,fun _=>none,g.ρ,fun _ _=>[]⟩ w' (exitO s) tmf (us.getD i undef) (resAt s.rs os i)):SoundFn P T f s fn:=by
 refine sound_of hp fun F g O xs ls y tmf w args hT hw hlim hls happ hsz hr=>(H F g O xs ls y tmf w args hT hls happ hsz hr).mono ?_
 rintro e w' ⟨us,os,he,hus,hos,hbel,hres⟩
 exact ⟨us,os,g.C,fun _=>none,he,hus,hos,hbel,fun _ _ _=>Iff.rfl,fun b o h=>Nat.lt_of_lt_of_le (hlim b o h) hbel.size,rfl,fun k b h=>(by cases h),fun k k' b h=>(by cases h),hres⟩
theorem own_out {F:Fr} {g:Gh} {w w':World} {s:Sig} {tmf:Nat->Value} {E:TypeId} {e:Ty} {l:List e.D} {b cap:Nat} {cur:Array Value} {y:s.out.D} (hw:F.w0=w) (hlim:∀ b o,g.C b o->b < w.heap.size) (hbel:Below w.heap.size w w') (hb:w.heap.size<=b)
  (hcell:w'.heap[b]? = some (.cells cur E (0,0))) (hl:l.length<=cap) (hc:cap<=maxLen) (hsz:cur.size=cap*e.size) (hel:∀ (i:Nat) (x:e.D),l[i]? = some x->RepD w' (fun b' o=>g.C b' o \/ (b'=b /\ o < l.length*e.size)) e x ((cur.toList.drop (i*e.size)).take e.size))
  (hrs:s.rs=[(false,[.own E e])]) (hmk:mkLs (Tok.hd 0) s.outs 0 (unpackD (s.outs.map LT.ty) y)=some [.own (.hd 0 0) E e l]) :
  ∃ us os C' blk',Ending.returned (.slice (some ⟨b,0,none⟩) l.length cap)=.returned (retV us) /\ us.length=s.rs.length /\ mkLs (Tok.hd 0) s.outs 0 (unpackD (s.outs.map LT.ty) y)=some os /\ Below w.heap.size w w' /\
   (∀ b o,b < w.heap.size->(C' b o↔g.C b o)) /\ (∀ b o,C' b o->b < w'.heap.size) /\ blk' .zero=none /\ (∀ k b,blk' k=some b->w.heap.size<=b /\ b < w'.heap.size) /\ (∀ k k' b,blk' k=some b->blk' k'=some b->k=k') /\
   ∀ i,i < s.rs.length->RelP F ⟨C',blk',g.ρ,fun _ _=>[]⟩ w' (exitO s) tmf (us.getD i undef) (resAt s.rs os i):=by
 have hblt:b < w'.heap.size:=(Array.getElem?_eq_some_iff.1 hcell).1
 have hk0:∀ k b',(match tokEq k (.hd 0 0) with | true=>some b | false=>none)=some b'->k=.hd 0 0 /\ b'=b:=fun k b' hk=>by
  cases hq:tokEq k (.hd 0 0) with
  | false=>rw [hq] at hk;cases hk
  | true=>
   rw [hq] at hk
   injection hk with hk
   refine ⟨?_,hk.symm⟩
   cases k with
   | hd d j=>
    have:(Nat.beq d 0&&Nat.beq j 0)=true:=hq
    simp only [Bool.and_eq_true] at this
    rw [Nat.eq_of_beq_eq_true this.1,Nat.eq_of_beq_eq_true this.2]
   | zero=>cases hq
   | op _ _=>cases hq
 refine ⟨[.slice (some ⟨b,0,none⟩) l.length cap],[.own (.hd 0 0) E e l],fun b' o=>g.C b' o \/ (b'=b /\ o < l.length*e.size),fun k=>match tokEq k (.hd 0 0) with | true=>some b | false=>none,rfl,by rw [hrs];rfl,hmk,hbel,fun b' o hb'=>⟨fun h=>h.elim id fun h=>absurd h.1 (by omega),.inl⟩,fun b' o h=>?_,rfl,fun k b' hk=>?_,fun k k' b' hk hk'=>?_,fun i hi=>?_⟩
 ·rcases h with h | h
  ·exact Nat.lt_of_lt_of_le (hlim b' o h) hbel.size
  ·rw [h.1];exact hblt
 ·obtain ⟨_,rfl⟩:=hk0 k b' hk
  exact ⟨hb,hblt⟩
 ·rw [(hk0 k b' hk).1,(hk0 k' b' hk').1]
 ·rw [hrs] at hi ⊢
  match i,hi with
  | 0,_=>
   have hrepd:RepD w' (fun b' o=>g.C b' o \/ (b'=b /\ o < l.length*e.size)) (.sl e) l [.slice (some ⟨b,0,none⟩) l.length cap]:=by
    refine ⟨_,_,_,rfl,rfl,hl,hc,fun i x hx=>?_⟩
    have hx:l[i]? = some x:=hx
    have hi:i < l.length:=(List.getElem?_eq_some_iff.1 hx).1
    have hr:=hel i x hx
    refine ⟨_,_,rfl,RepD.len hr,fun j u hj=>?_,hr⟩
    have hjl:j < e.size:=by
     have h1:=(List.getElem?_eq_some_iff.1 hj).1
     have h2:=RepD.len hr
     omega
    rw [List.getElem?_take,if_pos hjl,List.getElem?_drop] at hj
    rw [add_at]
    refine ⟨?_,.inr ⟨rfl,?_⟩⟩
    ·rw [cell_at hcell,<- Array.getElem?_toList,Nat.zero_add];exact hj
    ·show 0+(i*e.size+j) < _
     have h1:(i+1)*e.size<=l.length*e.size:=Nat.mul_le_mul_right _ hi
     rw [Nat.add_mul,Nat.one_mul] at h1
     omega
   refine ⟨[.slice (some ⟨b,0,none⟩) l.length cap],⟨_,[],rfl,⟨hrepd,fun _=>⟨_,rfl,.inr ⟨b,cap,cur,rfl,rfl,hcell,hl,hc,hsz,hel,?_,?_⟩⟩⟩,rfl⟩,rfl⟩
   ·intro o
    show (g.C b o \/ (b=b /\ o < l.length*e.size))↔o < l.length*e.size
    constructor
    ·rintro (h | h)
     ·have:=hlim _ _ h;omega
     ·exact h.2
    ·intro h;exact .inr ⟨rfl,h⟩
   ·intro o _
    exact .inl (by rw [hw];exact hb)
theorem own_nil {F:Fr} {g:Gh} {w w':World} {s:Sig} {tmf:Nat->Value} {E:TypeId} {e:Ty} {a:Option Addr} {y:s.out.D} (hlim:∀ b o,g.C b o->b < w.heap.size) (hbel:Below w.heap.size w w')
  (hrs:s.rs=[(false,[.own E e])]) (hmk:mkLs (Tok.hd 0) s.outs 0 (unpackD (s.outs.map LT.ty) y)=some [.own (.hd 0 0) E e ([]:List e.D)]) :
  ∃ us os C' blk',Ending.returned (.slice a 0 0)=.returned (retV us) /\ us.length=s.rs.length /\ mkLs (Tok.hd 0) s.outs 0 (unpackD (s.outs.map LT.ty) y)=some os /\ Below w.heap.size w w' /\
   (∀ b o,b < w.heap.size->(C' b o↔g.C b o)) /\ (∀ b o,C' b o->b < w'.heap.size) /\ blk' .zero=none /\ (∀ k b,blk' k=some b->w.heap.size<=b /\ b < w'.heap.size) /\ (∀ k k' b,blk' k=some b->blk' k'=some b->k=k') /\
   ∀ i,i < s.rs.length->RelP F ⟨C',blk',g.ρ,fun _ _=>[]⟩ w' (exitO s) tmf (us.getD i undef) (resAt s.rs os i):=by
 refine ⟨[.slice a 0 0],[.own (.hd 0 0) E e ([]:List e.D)],g.C,fun _=>none,rfl,by rw [hrs];rfl,hmk,hbel,fun _ _ _=>Iff.rfl,fun b o h=>Nat.lt_of_lt_of_le (hlim b o h) hbel.size,rfl,fun k b h=>(by cases h),fun k k' b h=>(by cases h),fun i hi=>?_⟩
 rw [hrs] at hi ⊢
 match i,hi with
 | 0,_=>
  refine ⟨[.slice a 0 0],⟨_,[],rfl,⟨⟨a,0,0,rfl,rfl,Nat.le_refl _,by unfold maxLen;omega,fun i x hx=>by simp [gt] at hx⟩,fun _=>⟨_,rfl,.inl ⟨a,rfl,rfl,rfl⟩⟩⟩,rfl⟩,rfl⟩
def tabOf (g:Nat) (k:IntKind) (zs:List Int):Nat×Array Value:=(g,(zs.map fun z=>Value.int k z).toArray)
theorem tabIs_now {P:Program} {w:World} {T:Tab} {name:String} {g:Nat} {k:IntKind} {zs:List Int} (hT:∀ p∈T,∃ ty fr,w.heap[p.1]? = some (.cells p.2 ty fr)) (hm:tabOf g k zs∈T) (hg:P.globalNamed name=some g):Lib.TabIs P w name k zs:=by
 obtain ⟨ty,fr,h⟩:=hT _ hm
 have h:w.heap[g]? = some (.cells (zs.map fun z=>Value.int k z).toArray ty fr):=h
 unfold Lib.TabIs World.var?
 rw [hg,Option.bind_some,h]
theorem tab_laid {P:Program} {W:World} {l:List (String×DataW Unit)} {name:String} {k:IntKind} {zs:List Int} {g:Nat} {t e:TypeId} {n:Nat}
  (h:laidMetH P l W) (hl:(l.filter fun x=>x.1==name)=[(name,Lib.tabData k zs)]) (hg:P.globalNamed name=some g) (hty:(P.globals[g]?).map (·.type)=some t) (ht:P.underlying t=some (.array n e)) (he:P.underlying e=some (.int k)) (hce:P.cellsOf e=1) (hct:P.cellsOf t=n) :
  ∃ ty fr,W.heap[(tabOf g k zs).1]? = some (.cells (tabOf g k zs).2 ty fr):=by
 have h1:=laidMetH.filter (fun x=>x.1==name) h
 rw [hl,MakeChecks.laidMetH_plain _ _ _ rfl] at h1
 have h2:=Lib.tabIs_of_head hg hty ht he hce hct h1
 unfold Lib.TabIs World.var? at h2
 rw [hg,Option.bind_some] at h2
 split at h2
 ·rename_i cs ty fr hc
  injection h2 with h2
  subst h2
  exact ⟨ty,fr,hc⟩
 ·cases h2
theorem below_grow (w:World) (k:Nat) (os:Array Obj):Below w.heap.size w (Go.Sort.grow (w.drewN k) os):=by
 refine ⟨rfl,rfl,rfl,?_,fun j hj=>?_⟩
 ·rw [Go.Sort.size_grow]
  exact Nat.le_add_right _ _
 ·exact Go.Sort.heap_grow_old (w.drewN k) os hj
section
variable {E : Env} {F : Fr} {g : Gh} {st : PSt} {w : World}
end
end Pv
end Go.Proofs.YtgfmfgombmpodaaGreatDoor
namespace Go.Proofs.YtgfmfgombmpodaaGreatDoor
open Go.RowKit Pv
set_option linter.unusedVariables false
theorem args_1 {args:Array Value} (h:args.size=1):args = #[args.getD 0 undef]:=by
 obtain ⟨al⟩:=args
 match al,h with
 | [v],_=>rfl
theorem args_2 {args:Array Value} (h:args.size=2):args = #[args.getD 0 undef,args.getD 1 undef]:=by
 obtain ⟨al⟩:=args
 match al,h with
 | [v,u],_=>rfl
theorem infoU:(Tryz.prog.info? 5).map (fun i=>(i.zero,i.size,i.bytes))=some (some (.int .u8 0),1,1):=by kernel_rfl
theorem ints_of {w:World} {C:Com} {k:IntKind} {l:List Int} {cs:List Value} (h:RepD w C (.sl (.int k)) l cs) :
  ∃ a n c,cs=[.slice a n c] /\ l.length=n /\ n<=c /\ c<=maxLen /\ (∀ x∈l,(Lit.int k x).wf=true) /\ (∀ ad,a=some ad -> ∀ (i:Nat) x,l[i]? = some x->w.cell? (ad.add i)=some (.int k x)) /\ (a=none->l=[]):=by
 obtain ⟨a,n,c,e0,e1,e2,e3,e4⟩:=h
 have hel:∀ (i:Nat) x,l[i]? = some x -> ∃ ad,a=some ad /\ w.cell? (ad.add i)=some (.int k x) /\ (Lit.int k x).wf=true:=fun i x hx=>by
  obtain ⟨ad,us,h1,h2,h3,h4,h5⟩:=e4 i x hx
  refine ⟨ad,h1,?_,h5⟩
  have h4:us=[.int k x]:=h4
  have:=(h3 0 (.int k x) (by rw [h4];rfl)).1
  rw [show (Ty.int k).size=1 from rfl,Nat.mul_one,Nat.add_zero] at this
  exact this
 refine ⟨a,n,c,e0,e1,e2,e3,fun x hx=>?_,fun ad hz i x hx=>?_,fun hz=>?_⟩
 ·obtain ⟨i,hi⟩:=List.mem_iff_getElem?.1 hx
  exact (hel i x hi).choose_spec.2.2
 ·obtain ⟨ad',h1,h2,_⟩:=hel i x hx
  rw [hz] at h1
  injection h1 with h1
  rw [h1];exact h2
 ·cases l with
  | nil=>rfl
  | cons x l=>
   obtain ⟨ad',h1,_⟩:=hel 0 x rfl
   rw [hz] at h1;cases h1
theorem rel_ints {F:Fr} {g:Gh} {w:World} {O:Tok->Bool} {tmf:Nat->Value} {u:Value} {k:IntKind} {l:List Int} (h:RelP F g w O tmf u (.w false [.d (.sl (.int k)) l])) :
  ∃ a n c,u=.slice a n c /\ l.length=n /\ n<=c /\ c<=maxLen /\ (∀ x∈l,(Lit.int k x).wf=true) /\ (∀ ad,a=some ad -> ∀ (i:Nat) x,l[i]? = some x->w.cell? (ad.add i)=some (.int k x)) /\ (a=none->l=[]):=by
 obtain ⟨a,n,c,e0,r⟩:=ints_of (rel_leaf.1 h)
 exact ⟨a,n,c,by injection e0,r⟩
theorem own_row {F:Fr} {g:Gh} {w w':World} {s:Sig} {tmf:Nat->Value} {E:TypeId} {k:IntKind} {l:List Int} {v:Value} {y:s.out.D} (hw:F.w0=w) (hlim:∀ b o,g.C b o->b < w.heap.size) (hbel:Below w.heap.size w w')
  (hrow:w'.ownsRow w.heap.size E 1 v l.length (l.map (Value.int k))) (hwf:∀ x∈l,(Lit.int k x).wf=true)
  (hrs:s.rs=[(false,[.own E (.int k)])]) (hmk:mkLs (Tok.hd 0) s.outs 0 (unpackD (s.outs.map LT.ty) y)=some [.own (.hd 0 0) E (.int k) l]) :
  ∃ us os C' blk',Ending.returned v=.returned (retV us) /\ us.length=s.rs.length /\ mkLs (Tok.hd 0) s.outs 0 (unpackD (s.outs.map LT.ty) y)=some os /\ Below w.heap.size w w' /\
   (∀ b o,b < w.heap.size->(C' b o↔g.C b o)) /\ (∀ b o,C' b o->b < w'.heap.size) /\ blk' .zero=none /\ (∀ k b,blk' k=some b->w.heap.size<=b /\ b < w'.heap.size) /\ (∀ k k' b,blk' k=some b->blk' k'=some b->k=k') /\
   ∀ i,i < s.rs.length->RelP F ⟨C',blk',g.ρ,fun _ _=>[]⟩ w' (exitO s) tmf (us.getD i undef) (resAt s.rs os i):=by
 obtain ⟨h0,⟨rfl,hn⟩ | ⟨b,cap,cur,rfl,h2,h3,h4,h5,h6,h7⟩⟩:=hrow
 ·have:l=[]:=List.eq_nil_of_length_eq_zero hn
  subst this
  exact own_nil hlim hbel hrs hmk
 ·refine own_out (e:=.int k) (l:=l) hw hlim hbel h2 h3 h4 h5 h6 (fun i x hx=>?_) hrs hmk
  have hx:l[i]? = some x:=hx
  have hin:i < l.length:=(List.getElem?_eq_some_iff.1 hx).1
  have hcell:cur.toList[i]? = some (.int k x):=by
   have e:(cur.toList.take (l.length*1))[i]? = some (.int k x):=by
    rw [h7,List.getElem?_map,hx];rfl
   rw [List.getElem?_take] at e
   split at e
   ·exact e
   ·cases e
  refine ⟨?_,hwf x (List.mem_of_getElem? hx)⟩
  rw [show (Ty.int k).size=1 from rfl,Nat.mul_one,List.drop_eq_getElem_cons (List.getElem?_eq_some_iff.1 hcell).1]
  simp [(List.getElem?_eq_some_iff.1 hcell).2]
end Go.Proofs.YtgfmfgombmpodaaGreatDoor
namespace Go.Proofs
open Go.Shelf Go.RowKit Go.Lib Go.Sort
def Tryz.lays156_ren:Go.Shelf.Ren:=⟨fun | 156=>68 | 165=>109 | 166=>110 | 169=>92 | 240=>129 | 241=>145 | 276=>161 | 277=>183 | n=>n,fun | 31=>47 | 9=>9 | 3=>3 | 4=>4 | 0=>0 | 20=>20 | 72=>155 | 76=>178 | 70=>153 | 37=>32 | 75=>157 | 127=>197 | 164=>226 | 5=>5 | 80=>159 | n=>n,fun | n=>n⟩
theorem Tryz.lays156:Go.Proofs.Lays.n156 Tryz.prog Tryz.lays156_ren:={
 mixed:=by kernel_rfl
 f156:=Tryz.func68.trans (congrArg some (by kernel_rfl))
 f165:=Tryz.func109.trans (congrArg some (by kernel_rfl))
 f166:=Tryz.func110.trans (congrArg some (by kernel_rfl))
 f169:=Tryz.func92.trans (congrArg some (by kernel_rfl))
 f240:=Tryz.func129.trans (congrArg some (by kernel_rfl))
 f241:=Tryz.func145.trans (congrArg some (by kernel_rfl))
 f276:=Tryz.func161.trans (congrArg some (by kernel_rfl))
 f277:=Tryz.func183.trans (congrArg some (by kernel_rfl))
 t0:=Tryz.underlying0
 a0:=Tryz.isAgg0
 z0:=Tryz.sizeOf0
 v0:=Tryz.zeroValue0
 t3:=Tryz.underlying3
 a3:=Tryz.isAgg3
 z3:=Tryz.sizeOf3
 v3:=Tryz.zeroValue3
 t4:=Tryz.underlying4
 a4:=Tryz.isAgg4
 z4:=Tryz.sizeOf4
 v4:=Tryz.zeroValue4
 t9:=Tryz.underlying9
 a9:=Tryz.isAgg9
 z9:=Tryz.sizeOf9
 v9:=Tryz.zeroValue9
 t20:=Tryz.underlying20
 a20:=Tryz.isAgg20
 z20:=Tryz.sizeOf20
 v20:=Tryz.zeroValue20
 t31:=Tryz.underlying47
 a31:=Tryz.isAgg47
 z31:=Tryz.sizeOf47
 v31:=Tryz.zeroValue47
 t37:=Tryz.underlying32
 a37:=Tryz.isAgg32
 z37:=Tryz.sizeOf32
 v37:=Tryz.zeroValue32
 t70:=Tryz.underlying153
 a70:=Tryz.isAgg153
 z70:=Tryz.sizeOf153
 v70:=Tryz.zeroValue153
 t72:=Tryz.underlying155
 a72:=Tryz.isAgg155
 z72:=Tryz.sizeOf155
 v72:=Tryz.zeroValue155
 t75:=Tryz.underlying157
 a75:=Tryz.isAgg157
 z75:=Tryz.sizeOf157
 v75:=Tryz.zeroValue157
 t76:=Tryz.underlying178
 a76:=Tryz.isAgg178
 z76:=Tryz.sizeOf178
 v76:=Tryz.zeroValue178
 t127:=Tryz.underlying197
 a127:=Tryz.isAgg197
 z127:=Tryz.sizeOf197
 v127:=Tryz.zeroValue197
 t164:=Tryz.underlying226
 a164:=Tryz.isAgg226
 z164:=Tryz.sizeOf226
 v164:=Tryz.zeroValue226 }
theorem Tryz.Builder_Extra_156:Builder.Extra Tryz.prog Tryz.lays156_ren:={
 sizeBuilder:=by kernel_rfl
 liesBuilder:=by kernel_rfl
 t5:=Tryz.underlying5
 a5:=Tryz.isAgg5
 z5:=Tryz.sizeOf5
 v5:=Tryz.zeroValue5
 infoByte:=by kernel_rfl
 cellsByte:=by kernel_rfl
 sizeByte:=by kernel_rfl
 neB5:=by decide }
theorem Tryz.strings_Join_none (a:Option Addr) (c:Nat) (sep:ByteArray) (w:World) :
  Calls Tryz.prog 68 #[.slice a 0 c,.string sep] w fun e w'=>e=.returned (.string ⟨#[]⟩) /\ w'=w:=Any.strings_Join_none Tryz.lays156 Tryz.Builder_Extra_156 a c sep w
theorem Tryz.strings_Join (bk o c:Nat) (xs:List ByteArray) (sep:ByteArray) (w:World) (hcells:∀ (j:Nat) x,xs[j]? = some x->w.cell? ⟨bk,o+j,none⟩=some (.string x)) (hbk:bk < w.heap.size) (hN:xs.length<=140737488355328) (hcap:xs.length<=c) (hlen:(Lib.join (xs.map (·.data.toList)) sep.data.toList).length<=140737488355328) :
  Calls Tryz.prog 68 #[.slice (some ⟨bk,o,none⟩) xs.length c,.string sep] w fun e w'=>e=.returned (.string ⟨(Lib.join (xs.map (·.data.toList)) sep.data.toList).toArray⟩) /\ Below w.heap.size w w':=Any.strings_Join Tryz.lays156 Tryz.Builder_Extra_156 bk o c xs sep w hcells hbk hN hcap hlen
end Go.Proofs
namespace Go.Proofs.YtgfmfgombmpodaaGreatDoor
open Go.RowKit Pv
set_option linter.unusedVariables false
def toB (l:List Int):List UInt8:=l.map fun x=>x.toNat.toUInt8
def okErr (v:Value):Prop:=v=.nilIface \/ ∃ te pe,v=.iface te pe
def has_errs (T:Tab):Prop:=∃ v1 v2,(4,#[v1])∈T /\ (5,#[v2])∈T /\ okErr v1 /\ okErr v2
def atoiP (l:List Int):Int×Bool:=match Lib.atoiAll (toB l) with
 | .ok v=>(v,false)
 | .syntax=>(0,true)
 | .range=>(Lib.atoiSat (toB l),true)
def F_strconv_Atoi (l:List Int):Option (Int×Bool):=cond (Nat.ble l.length 281474976710656) (some (atoiP l)) none
theorem wf_of {q:Int} (h : -9223372036854775808<=q /\ q<=9223372036854775807):(Lit.int .i64 q).wf=true:=by
 simp [Lit.wf,IntKind.min,IntKind.max,IntKind.signed,IntKind.bits]
 omega
theorem cell_plain {w:World} {ad:Addr} {k:Nat} {u:Value} (h:w.cell? (ad.add k)=some u):w.cell? ⟨ad.block,ad.off+k,none⟩=some u:=by
 have hs:(ad.add k).spot=none:=by
  cases hsp:(ad.add k).spot with
  | none=>rfl
  | some x=>
   unfold World.cell? at h
   split at h
   ·rw [hsp] at h;simp at h
   ·cases h
 have e:ad.add k=⟨ad.block,ad.off+k,none⟩:=by
  have h1:=add_block ad k
  have h2:=add_off ad k
  cases ha:ad.add k with
  | mk b o sp=>
   rw [ha] at hs h1 h2
   have hs:sp=none:=hs
   have h1:b=ad.block:=h1
   have h2:o=ad.off+k:=h2
   rw [hs,h1,h2]
 rw [<-e];exact h
def joinP (l:List (List Int)) (sep:List Int):List Int:=sep.intercalate l
theorem inter_map (sep:List UInt8) (l:List (List UInt8)):(sep.intercalate l).map byteI=(sep.map byteI).intercalate (l.map fun x=>x.map byteI):=by
 unfold List.intercalate
 rw [List.map_flatten]
 congr 1
 induction l with
 | nil=>rfl
 | cons x l ih=>
  cases l with
  | nil=>rfl
  | cons y l=>
   show x.map byteI::sep.map byteI::(List.intersperse sep (y::l)).map (List.map byteI)=x.map byteI::sep.map byteI::List.intersperse (sep.map byteI) ((y::l).map fun x=>x.map byteI)
   rw [ih]
def F_strings_Join_sig:Sig:=⟨[.v false [.d (.sl .str)],.v false [.d .str]],[(false,[.d .str])]⟩
def F_strings_Join (l:List (List Int)) (sep:List Int):Option (List Int):=cond (Nat.ble l.length 140737488355328&&Nat.ble (joinP l sep).length 140737488355328) (some (joinP l sep)) none
theorem F_strings_Join_sound {T:Tab}:SoundFn Tryz.prog T 68 F_strings_Join_sig ⟨F_strings_Join⟩:=by
  refine sound_d rfl fun F g O xs ls y tmf w args hT hls happ hsz hr=>?_
  obtain ⟨(l:List (List Int)),xs',rfl,h2⟩:=appF_inv_c (ts:=[.str]) happ
  obtain ⟨(sep:List Int),xs'',rfl,h2'⟩:=appF_inv_c (ts:=[]) h2
  obtain ⟨rfl,h3⟩:=appF_inv_n h2'
  have hls':some [Leaf.d (.sl .str) l,Leaf.d .str sep]=some ls:=hls
  injection hls' with hls'
  subst hls'
  obtain ⟨a,n,c,e0,e1,e2,e3,e4⟩:=rel_leaf.1 (hr 0)
  have e0:args.getD 0 undef=.slice a n c:=by injection e0
  obtain ⟨t,f0,f1,f2⟩:=rel_str (hr 1)
  rw [args_2 hsz,e0,f0]
  have h3:cond (Nat.ble l.length 140737488355328&&Nat.ble (joinP l sep).length 140737488355328) (some (joinP l sep)) none=some y:=h3
  cases hb:(Nat.ble l.length 140737488355328&&Nat.ble (joinP l sep).length 140737488355328) with
  | false=>rw [hb] at h3;cases h3
  | true=>
    rw [hb] at h3
    have hy:joinP l sep=y:=by injection h3
    simp only [Bool.and_eq_true] at hb
    have hl1:l.length<=140737488355328:=Nat.le_of_ble_eq_true hb.1
    have hl2:(joinP l sep).length<=140737488355328:=Nat.le_of_ble_eq_true hb.2
    have fin : ∀ (r : List UInt8) (w' : World), r.map byteI = y -> Below w.heap.size w w' ->
        ∃ us os,Ending.returned (.string ⟨r.toArray⟩)=.returned (retV us) /\ us.length=F_strings_Join_sig.rs.length /\ mkLs (Tok.hd 0) F_strings_Join_sig.outs 0 (unpackD (F_strings_Join_sig.outs.map LT.ty) y)=some os /\ Below w.heap.size w w' /\
          ∀ i,i < F_strings_Join_sig.rs.length->RelP F ⟨g.C,fun _=>none,g.ρ,fun _ _=>[]⟩ w' (exitO F_strings_Join_sig) tmf (us.getD i undef) (resAt F_strings_Join_sig.rs os i):=fun r w' hr hbel=>by
      refine ⟨[.string ⟨r.toArray⟩],[.d .str y],rfl,rfl,rfl,hbel,fun i hi=>?_⟩
      match i,hi with
      | 0,_=>
        refine ⟨[.string ⟨r.toArray⟩],⟨_,[],rfl,⟨_,rfl,?_,?_⟩,rfl⟩,rfl⟩
        · show r.toArray.toList.map byteI=_
          rw [List.toList_toArray];exact hr
        · show r.toArray.size<=maxLen
          have:r.length=(joinP l sep).length:=by rw [hy,<- hr,List.length_map]
          have hm:maxLen=9223372036854775807:=rfl
          rw [List.size_toArray];omega
    cases l with
    | nil=>
      have hn:n=0:=by rw [<-e1];rfl
      subst hn
      refine (Tryz.strings_Join_none a c t w).mono ?_
      rintro e w' ⟨rfl,rfl⟩
      exact fin [] w' hy (Below.refl _ _)
    | cons z l=>
      obtain ⟨ad,us0,rfl,_,hc0,_⟩:=e4 0 z rfl
      obtain ⟨ss,hs1,hs2⟩:=choose_l (p:=fun i (s:ByteArray)=>∃ x,(z::l)[i]? = some x /\ bytesL s=x /\ w.cell? (ad.add i)=some (.string s)) (z::l).length fun i hi=>by
        obtain ⟨ad',us,had,_,hc,s,rfl,hs,_⟩:=e4 i _ (List.getElem?_eq_getElem hi)
        injection had with had
        subst had
        have:=(hc 0 _ rfl).1
        exact ⟨s,_,List.getElem?_eq_getElem hi,hs,by rw [show i*(Ty.str).size+0=i by show i*1+0=i;omega] at this;exact this⟩
      have hmap:ss.map bytesL=z::l:=by
        apply List.ext_getElem?
        intro i
        rw [List.getElem?_map]
        rcases Nat.lt_or_ge i (z::l).length with hi | hi
        · obtain ⟨x,q1,q2,q3⟩:=hs2 i _ (List.getElem?_eq_getElem (by omega))
          rw [List.getElem?_eq_getElem (show i < ss.length by omega),q1,<- q2];rfl
        · rw [List.getElem?_eq_none (by omega),List.getElem?_eq_none hi];rfl
      have hj:(Lib.join (ss.map (·.data.toList)) t.data.toList).map byteI=y:=by
        show (t.data.toList.intercalate (ss.map (·.data.toList))).map byteI=y
        rw [inter_map,<- hy,List.map_map]
        unfold joinP
        rw [<-hmap,<- f1]
        rfl
      have hjl:(Lib.join (ss.map (·.data.toList)) t.data.toList).length=(joinP (z::l) sep).length:=by rw [hy,<- hj,List.length_map]
      have hn:ss.length=n:=by rw [hs1];exact e1
      rw [<-hn]
      have had:∀ (j:Nat) (x:ByteArray),ss[j]? = some x->w.cell? ⟨ad.block,ad.off+j,none⟩=some (.string x):=fun j x hj=>by
        obtain ⟨_,_,_,q3⟩:=hs2 j x hj
        exact cell_plain q3
      have hsp:(some ad:Option Addr)=some ⟨ad.block,ad.off,none⟩:=by
        have:ad.spot=none:=by
          have hx:=had 0 _ (List.getElem?_eq_getElem (show 0 < ss.length by rw [hs1];simp))
          cases hsp:ad.spot with
          | none=>rfl
          | some x=>
            have hz:ad.add 0=ad:=by unfold Addr.add;rw [if_pos rfl]
            obtain ⟨_,_,_,q3⟩:=hs2 0 _ (List.getElem?_eq_getElem (show 0 < ss.length by rw [hs1];simp))
            rw [hz] at q3
            unfold World.cell? at q3
            split at q3
            · rw [hsp] at q3;simp at q3
            · cases q3
        cases ad with
        | mk b o sp=>
          have this:sp=none:=this
          rw [this]
      rw [hsp]
      refine (Tryz.strings_Join ad.block ad.off c ss t w had (cell_lt (a:=⟨ad.block,ad.off+0,none⟩) (had 0 _ (List.getElem?_eq_getElem (show 0 < ss.length by rw [hs1];simp)))) (by rw [hs1];exact hl1) (by omega) (by rw [hjl];exact hl2)).mono ?_
      rintro e w' ⟨rfl,hbel⟩
      exact fin _ w' hj hbel
def splitI:List Int->Int->List (List Int)
 | [],_=>[[]]
 | x::s,c=>cond (x==c) ([]::splitI s c) (match splitI s c with | []=>[[x]] | w::r=>(x::w)::r)
theorem splitI_ne (s:List Int) (c:Int):splitI s c≠[]:=by
 cases s with
 | nil=>simp [splitI]
 | cons x s=>
  unfold splitI
  cases x==c
  ·rw [cond_false];split <;> simp
  ·simp
theorem splitI_miss:∀ {s:List Int} {c:Int},(∀ x∈s,x≠c)->splitI s c=[s]
 | [],_,_=>rfl
 | x::s,c,h=>by
  have ih:=splitI_miss (s:=s) (c:=c) fun y hy=>h y (by simp [hy])
  unfold splitI
  rw [ih,beq_eq_false_iff_ne.2 (h x (by simp)),cond_false]
theorem splitI_hit:∀ {u v:List Int} {c:Int},(∀ x∈u,x≠c)->splitI (u++c::v) c=u::splitI v c
 | [],v,c,_=>by
  show cond (c==c) ([]::splitI v c) _=_
  rw [beq_self_eq_true];rfl
 | x::u,v,c,h=>by
  have ih:=splitI_hit (u:=u) (v:=v) (c:=c) fun y hy=>h y (by simp [hy])
  show cond (x==c) _ (match splitI (u++c::v) c with | []=>[[x]] | w::r=>(x::w)::r)=_
  rw [ih,beq_eq_false_iff_ne.2 (h x (by simp)),cond_false]
theorem splitI_sum:∀ (s:List Int) (c:Int),((splitI s c).map List.length).sum+(splitI s c).length=s.length+1
 | [],c=>rfl
 | x::s,c=>by
  have ih:=splitI_sum s c
  unfold splitI
  cases x==c
  ·rw [cond_false]
   cases h:splitI s c with
   | nil=>exact absurd h (splitI_ne s c)
   | cons w r=>
    rw [h] at ih
    simp only [List.map_cons,List.sum_cons,List.length_cons] at ih ⊢
    omega
  ·simp only [cond_true,List.map_cons,List.sum_cons,List.length_cons,List.length_nil]
   omega
theorem mem_sum:∀ {l:List Nat} {n:Nat},n∈l->n<=l.sum
 | m::l,n,h=>by
  rw [List.sum_cons]
  rcases List.mem_cons.1 h with rfl | h
  ·omega
  ·have:=mem_sum h;omega
def has_maxlen (T:Tab):Prop:=∃ m:Int,(1,#[Value.int .i64 m])∈T
def F_strings_Split (s t:List Int):Option (List (List Int)):=match t with
 | [c]=>cond (Nat.ble s.length 4000000000) (some (splitI s c)) none
 | _=>none
theorem handed_of_laid_shaped {H:Type} {enc:TypeId×Value->H} {a:Assume} {C:Checked} {os:Os} {f:FuncId} {fn:Func} {s:ChangeSpec} {conds:List PathCond} {apart fresh handsOn again:Bool} {X:World->Array Value->Prop}
  (hX:∀ (w w':World) (args:Array Value),w.heap=w'.heap->X w args->X w' args)
  (own:ownKnob C.prog.godebug=none) (started:os.Started) (noInit:C.prog.inits.idxOf? f=none) (hfn:C.prog.funcs[f]? = some fn)
  (witness:∃ (w:World) (tape:Tape) (i:Input),w.os=os /\ (w.forCall tape i).Shaped C.prog /\ i.vars=[] /\ Input.okWide C.prog (w.forCall tape i) .any w.heap.size f i /\
   ((s.pre enc C.prog fn conds apart (w.forCall tape i).memory i.args /\ X (w.forCall tape i).memory i.args) /\ sizedMet enc C.prog fn (OpenSpec.ofChange s) apart (w.forCall tape i).memory i.args) /\ a.holds C.prog (lone (Frame.enter C.prog f i.args .normal) [] (w.forCall tape i)))
  (contract:∀ (W:World) (base:Nat) (args:Array Value) (ds gs:List (DataW H)) (before:List MemPlace),
   (∀ (j:Nat) t v,fn.params[j]? = some t->args[j]? = some v->Value.okWide C.prog W .any base t v) ->
   DataW.Whole enc C.prog fn.params.toList s.vars apart W args.toList ds gs before->X W args->W.ShapedOpen C.prog ->
   Calls C.prog f args W fun e W'=>∃ v,e=.returned v /\ s.post enc C.prog fn apart fresh handsOn again W args v W') :
  ReturnsInHanded a C os f .any (fun w args=>(s.pre enc C.prog fn conds apart w args /\ X w args) /\ sizedMet enc C.prog fn (OpenSpec.ofChange s) apart w args) (s.post enc C.prog fn apart fresh handsOn again):=by
 refine returnsInHanded_of_calls own started noInit witness ?_
 intro w tape i _ hsh _ hok hpre hholds
 obtain ⟨_,_,_,fn',hfn',_,_,_,_,hval⟩:=hok
 have e:fn'=fn:=Option.some.inj (hfn'.symm.trans hfn)
 subst e
 obtain ⟨⟨⟨ds,gs,before,hw,hc⟩,hx⟩,hz⟩:=hpre
 have hw':=DataW.Whole.of_heap (w':=w.forCall tape i) (by rfl) hw
 refine (contract (w.forCall tape i) w.heap.size i.args ds gs before hval hw' (hX _ _ _ (by rfl) hx) hsh).mono fun e W' ⟨v,he,hp⟩=>?_
 subst he
 exact ChangeSpec.post_blind hp
theorem err_laid {P:Program} {W:World} {l:List (String×DataW Unit)} {name n:String} {D d:DataW Unit} (hD:D=.iface n d) {g:Nat} {t:TypeId} {ms:Array (String×TypeId)}
  (h:laidMetH P l W) (hl:(l.filter fun x=>x.1==name)=[(name,D)]) (hh:D.handleName? = none) (hg:P.globalNamed name=some g) (hty:(P.globals[g]?).map (·.type)=some t) (ht:P.underlying t=some (.interface ms)) :
  ∃ v,(∃ ty fr,W.heap[g]? = some (.cells #[v] ty fr)) /\ okErr v:=by
 have h1:=laidMetH.filter (fun x=>x.1==name) h
 rw [hl,MakeChecks.laidMetH_plain _ _ _ (by simp [hh])] at h1
 subst hD
 obtain ⟨ps,⟨g',t',cs,fuel,p,q,hg',ht',hvar,hd,_,_⟩,_⟩:=h1
 obtain rfl:=Option.some.inj (hg.symm.trans hg')
 obtain rfl:=Option.some.inj (hty.symm.trans ht')
 obtain ⟨_,u,v,hcs,_,_⟩:=iface_of_trod ht hd
 unfold World.var? at hvar
 rw [hg,Option.bind_some] at hvar
 split at hvar
 ·rename_i cs' ty fr hc
  injection hvar with hvar
  subst hvar
  obtain rfl:cs' = #[.iface u v]:=by
   cases cs'
   simp_all
  exact ⟨_,⟨ty,fr,hc⟩,.inr ⟨u,v,rfl⟩⟩
 ·cases hvar
theorem int_shaped {P:Program} {w:World} {g:Nat} {t:TypeId} {zero:Array Value} {k:IntKind}
  (h:w.ShapedOpen P) (hg:g < P.globals.size)
  (h0:((begin P (fun _ _=>0) default).world.heap[g]?).bind Obj.row? = some (zero,t)) (hz:zero.size=1)
  (hb:P.buildable t=true) (hc:P.cellTypes P.depth t=some [t]) (hu:P.underlying t=some (.int k)) :
  ∃ m,∃ ty fr,w.heap[g]? = some (.cells #[.int k m] ty fr):=by
 obtain ⟨m,hm⟩:=cell_of_shapedOpen_int h hg h0 hz hb hc hu
 obtain ⟨cs,hh,hs,_⟩:=h.1 g zero t hg h0
 rw [cell_at hh] at hm
 obtain ⟨al⟩:=cs
 match al,hs,hm with
 | [v],_,hm=>
  have hm:some v=some (.int k m):=hm
  injection hm with hm
  subst hm
  exact ⟨m,_,_,hh⟩
 | [],hs,_=>rw [hz] at hs;simp at hs
 | _::_::_,hs,_=>rw [hz] at hs;simp at hs
end Go.Proofs.YtgfmfgombmpodaaGreatDoor
namespace Go.Proofs.YtgfmfgombmpodaaGreatDoor
open Go.RowKit Go.Lib Pv
set_option linter.unusedVariables false
def ruleT:Ty:=.pr .bool (.pr (.int .i64) (.pr .str (.pr (.pr .str (.int .i64)) (.pr (.int .i64) (.int .i64)))))
def ruleZ:Value:=.agg #[.bool false,.int .i64 0,.string ⟨#[]⟩,.string ⟨#[]⟩,.int .i64 0,.int .i64 0,.int .i64 0]
theorem infoR:(Tryz.prog.info? 68).map (fun i=>(i.zero,i.size,i.bytes))=some (some ruleZ,7,72):=by kernel_rfl
def F_slices_Clone_conf_Rule_conf_Rule_sig:Sig:=⟨[.v false [.d (.sl (.pr .bool (.pr (.int .i64) (.pr .str (.pr (.pr .str (.int .i64)) (.pr (.int .i64) (.int .i64)))))))]],[(false,[.own 68 (.pr .bool (.pr (.int .i64) (.pr .str (.pr (.pr .str (.int .i64)) (.pr (.int .i64) (.int .i64))))))])]⟩
def F_slices_Clone_conf_Rule_conf_Rule (l:List (Bool×Int×List Int×(List Int×Int)×Int×Int)):Option (List (Bool×Int×List Int×(List Int×Int)×Int×Int)):=cond (Nat.ble l.length 1000000) (some l) none
set_option maxHeartbeats 4000000 in
set_option maxRecDepth 1000000 in
theorem clr_at (a:Addr) (n c:Nat) (news:List Value) (w:World) (hl:news.length=n*7) (hbig:n<=1000000) (hc:∀ j u,news[j]? = some u->w.cell? (a.add j)=some u) (h1:∀ u∈news,u.oneCell'=true) :
  Calls Tryz.prog 107 #[.slice (some a) n c] w fun e w'=>∃ v',e=.returned v' /\ w'.ownsRow w.heap.size 68 7 v' n news /\ Below w.heap.size w w':=by
 obtain ⟨i0,hi,hz0,hz1,hz2⟩:=info_parts infoR
 have q22:∀ (w:World) (a:Option Addr) (n c n' c':Nat),(binOp .eql 61 (.slice a n c) (.slice none n' c')).run Tryz.prog w=.ok (.bool a.isNone) w:=fun w a n c n' c'=>Lib.run_eql_slice_nil w _ _ a n c n' c' Tryz.underlying61
 have A:Aside (∀ j u,news[j]? = some u->w.cell? (a.add j)=some u):=hc
 have B:Aside (∀ u∈news,u.oneCell'=true):=h1
 clear hc h1
 go_enter Tryz.func107,Tryz.ntmps107
 go_wp2_with (at_builtin;refine wpList_append_own _ rfl _ _ 61 rfl w.heap.size 68 i0 ruleZ 7 72 Tryz.underlying61 hi hz0 hz1 hz2 rfl (by decide) _ _ _ rfl (World.ownsRow_made w #[] 0 (Nat.le_refl _) (Nat.zero_le _) rfl) a n c news rfl ?qc1 ?qc2 ?qc3 ?qc4 ?qc5 ?qc6 ?_)
 case qc1=>exact hl
 case qc2=>
  intro j u hj
  exact Lib.cell?_alloc_some _ (A.out j u hj)
 case qc3=>exact B.out
 case qc4=>unfold maxLen;omega
 case qc5=>omega
 case qc6=>simp
 intro v' w1 hown hgrow hnil
 go_wp2
 go_ret
 exact ⟨v',rfl,by simpa using hown,((Below.refl _ w).alloc (Nat.le_refl _) _).grown hgrow (by simp) (by intro k hk;simp [Value.ownBlock] at hk;omega)⟩
set_option maxHeartbeats 4000000 in
theorem clr_nil (n c:Nat) (w:World):Calls Tryz.prog 107 #[.slice none n c] w fun e w'=>e=.returned (.slice none 0 0) /\ w'=w:=by
 have q22:∀ (w:World) (a:Option Addr) (n c n' c':Nat),(binOp .eql 61 (.slice a n c) (.slice none n' c')).run Tryz.prog w=.ok (.bool a.isNone) w:=fun w a n c n' c'=>Lib.run_eql_slice_nil w _ _ a n c n' c' Tryz.underlying61
 go_enter Tryz.func107,Tryz.ntmps107
 go_wp2
 go_ret
 exact ⟨rfl,rfl⟩
theorem F_slices_Clone_conf_Rule_conf_Rule_sound {T:Tab}:SoundFn Tryz.prog T 107 F_slices_Clone_conf_Rule_conf_Rule_sig ⟨F_slices_Clone_conf_Rule_conf_Rule⟩:=by
 refine sound_of rfl fun F g O xs ls y tmf w args hT hw hlim hls happ hsz hr=>?_
 obtain ⟨(l:List ruleT.D),xs',rfl,h2⟩:=appF_inv_c (ts:=[]) happ
 obtain ⟨rfl,h3⟩:=appF_inv_n h2
 have hls':some [Leaf.d (.sl ruleT) l]=some ls:=hls
 injection hls' with hls'
 subst hls'
 obtain ⟨a,n,c,e0,e1,e2,e3,e4⟩:=rel_leaf.1 (hr 0)
 have hrep:RepD w g.C (.sl ruleT) l [.slice a n c]:=⟨a,n,c,rfl,e1,e2,e3,e4⟩
 have e0:args.getD 0 undef=.slice a n c:=by injection e0
 rw [args_1 hsz,e0]
 have h3:cond (Nat.ble l.length 1000000) (some l) none=some y:=h3
 cases hb:Nat.ble l.length 1000000 with
 | false=>rw [hb] at h3;cases h3
 | true=>
  rw [hb] at h3
  have hy:l=y:=by injection h3
  have hb:=Nat.le_of_ble_eq_true hb
  subst hy
  cases a with
  | none=>
   have hl:l=[]:=by
    cases l with
    | nil=>rfl
    | cons x r=>
     obtain ⟨ad,us,q,_⟩:=e4 0 x rfl
     cases q
   subst hl
   refine (clr_nil n c w).mono ?_
   rintro e w' ⟨rfl,rfl⟩
   exact own_nil hlim (Below.refl _ _) rfl rfl
  | some ad=>
   obtain ⟨news,n1,n2,n3,n4⟩:=slice_cells (e:=ruleT) (by decide) hrep
   refine (clr_at ad n c news w (by rw [n1,e1];rfl) (by omega) n2 n3).mono ?_
   rintro e w' ⟨v,rfl,hrow,hbel⟩
   obtain ⟨h0,⟨rfl,hn⟩ | ⟨b,cap,cur,rfl,k2,k3,k4,k5,k6,k7⟩⟩:=hrow
   ·have hl:l=[]:=List.eq_nil_of_length_eq_zero (by omega)
    subst hl
    exact own_nil hlim hbel rfl rfl
   ·subst e1
    refine own_out (e:=ruleT) (l:=l) hw hlim hbel k2 k3 k4 k5 k6 (fun i x hx=>?_) rfl rfl
    have hin:i < l.length:=(List.getElem?_eq_some_iff.1 hx).1
    have r1:=n4 i x hx
    have r2:RepD w' (fun b' o=>g.C b' o \/ (b'=b /\ o < l.length*ruleT.size)) ruleT x ((news.drop (i*ruleT.size)).take ruleT.size):=RepD.gw (fun a u hu hC=>⟨by rw [hbel.cell (cell_lt hu)];exact hu,.inl hC⟩) r1
    have e7:(cur.toList.drop (i*ruleT.size)).take ruleT.size=(news.drop (i*ruleT.size)).take ruleT.size:=by
     show (cur.toList.drop (i*7)).take 7=(news.drop (i*7)).take 7
     rw [<-k7,List.drop_take,List.take_take]
     congr 1
     omega
    rw [e7]
    exact r2
inductive Role where
 | no | rdr | map | usr | flat
 | row (i:Nat)
def noC:Com:=fun _ _=>False
abbrev RuleD:=Bool×Int×List Int×(List Int×Int)×Int×Int
abbrev UserD:=List Int×(List Int×List Int)×Int×(Nat×Nat)×List RuleD
def userT:Ty:=.pr .str (.pr (.pr (.sl (.int .u8)) (.sl (.int .u8))) (.pr (.int .i64) (.pr (.cpx .f64) (.sl ruleT))))
structure RSt where
 c0:Int
 c1:Int
 c2:Int
 c3:Int
 c4:Int
 c5:Int
 c6:Int
 told:List (List Int)
 us:List UserD
def flatT:Ty->Bool
 | .sl _=>false
 | .arr _ e=>flatT e
 | .pr a b=>flatT a&&flatT b
 | _=>true
theorem repD_flat {w w':World} {C C':Com}:∀ {t:Ty} {x:t.D} {cs:List Value},flatT t=true->RepD w C t x cs->RepD w' C' t x cs
 | .int _,_,_,_,h=>h
 | .bool,_,_,_,h=>h
 | .str,_,_,_,h=>h
 | .flo _,_,_,_,h=>h
 | .cpx _,_,_,_,h=>h
 | .err,_,_,_,h=>h
 | .un,_,_,_,h=>h
 | .sl _,_,_,hf,_=>by cases hf
 | .arr n e,x,cs,hf,h=>⟨h.1,h.2.1,fun i y hy=>repD_flat hf (h.2.2 i y hy)⟩
 | .pr a b,x,cs,hf,h=>by
  obtain ⟨c1,c2,h1,h2,h3⟩:=h
  have hf:(flatT a&&flatT b)=true:=hf
  rw [Bool.and_eq_true] at hf
  exact ⟨c1,c2,h1,repD_flat hf.1 h2,repD_flat hf.2 h3⟩
def RowAt (lo:Nat) (w:World) (role:Nat->Role) (ro:Role) (E:TypeId) (e:Ty) (l:List e.D) (v:Value):Prop:=
 ∃ xs,w.ownsRow lo E e.size v (List.length l) xs /\ (∀ b,v.ownBlock=some b->role b=ro) /\ ∀ (i:Nat) (x:e.D),l[i]? = some x->RepD w noC e x ((xs.drop (i*e.size)).take e.size)
theorem owns_keep {lo:Nat} {w w':World} {E:TypeId} {s n:Nat} {v:Value} {xs:List Value} (h:w.ownsRow lo E s v n xs) (hk:∀ b,v.ownBlock=some b->w'.heap[b]? = w.heap[b]?):w'.ownsRow lo E s v n xs:=by
 refine ⟨h.1,?_⟩
 rcases h.2 with hn | ⟨g,cap,cur,rfl,hb,hg,rest⟩
 ·exact .inl hn
 ·exact .inr ⟨g,cap,cur,rfl,hb,(hk g rfl).trans hg,rest⟩
theorem RowAt.keep {lo:Nat} {w w':World} {role role':Nat->Role} {ro:Role} {E:TypeId} {e:Ty} {l:List e.D} {v:Value} (h:RowAt lo w role ro E e l v) (he:flatT e=true) (hne:ro≠.no) (hk:∀ b,role b=ro->role' b=ro /\ w'.heap[b]? = w.heap[b]?):RowAt lo w' role' ro E e l v:=by
 obtain ⟨xs,h1,h2,h3⟩:=h
 exact ⟨xs,owns_keep h1 fun b hb=>(hk b (h2 b hb)).2,fun b hb=>(hk b (h2 b hb)).1,fun i x hx=>repD_flat he (h3 i x hx)⟩
def UserAt (lo:Nat) (w:World) (role:Nat->Role) (i:Nat) (u:UserD) (cs:List Value):Prop:=
 ∃ (nm:ByteArray) (vs vd vr:Value),cs=[.string nm,vs,vd,.int .i64 u.2.2.1,.complex .f64 u.2.2.2.1.1 u.2.2.2.1.2,vr] /\ bytesL nm=u.1 /\ nm.size<=maxLen /\ (Lit.int .i64 u.2.2.1).wf=true /\
  RowAt lo w role .flat 5 (.int .u8) u.2.1.1 vs /\ RowAt lo w role .flat 5 (.int .u8) u.2.1.2 vd /\ RowAt lo w role (.row i) 68 ruleT u.2.2.2.2 vr
def UsAt (lo:Nat) (w:World) (role:Nat->Role) (us:List UserD) (v:Value):Prop:=
 ∃ xs,w.ownsRow lo 63 6 v us.length xs /\ (∀ b,v.ownBlock=some b->role b=.usr) /\ ∀ i u,us[i]? = some u->UserAt lo w role i u ((xs.drop (i*6)).take 6)
def MapB (w:World) (m:Nat) (ks:List (List Int)):Prop:=∃ es clock,w.heap[m]? = some (.map es clock) /\ (∀ e∈es.toList,e.born < clock) /\ ∃ bs:List ByteArray,bs.map bytesL=ks /\ es.toList.map (fun e=>(e.key,e.val))=bs.map fun s=>(Value.string s,Value.bool true)
def RSt.ints (x:RSt):List Int:=[x.c0,x.c1,x.c2,x.c3,x.c4,x.c5,x.c6]
structure RdAt (lo:Nat) (w:World) (R M:Nat) (v:Value) (role:Nat->Role) (x:RSt):Prop where
 hR:w.heap[R]? = some (.cells #[.int .i64 x.c0,.int .i64 x.c1,.int .i64 x.c2,.int .i64 x.c3,.int .i64 x.c4,.int .i64 x.c5,.int .i64 x.c6,v,.map (some M)] 110 (0,0))
 rR:role R=.rdr
 hM:MapB w M x.told
 rM:role M=.map
 hU:UsAt lo w role x.us v
 lt:∀ b,role b≠.no->lo<=b /\ b < w.heap.size
 wf:∀ c∈x.ints,(Lit.int .i64 c).wf=true
theorem UserAt.keep {lo:Nat} {w w':World} {role role':Nat->Role} {i:Nat} {u:UserD} {cs:List Value} (h:UserAt lo w role i u cs) (hk:∀ b,role b=.flat \/ role b=.row i->role' b=role b /\ w'.heap[b]? = w.heap[b]?):UserAt lo w' role' i u cs:=by
 obtain ⟨nm,vs,vd,vr,h1,h2,h3,h4,h5,h6,h7⟩:=h
 refine ⟨nm,vs,vd,vr,h1,h2,h3,h4,h5.keep rfl (by intro e;cases e) fun b hb=>?_,h6.keep rfl (by intro e;cases e) fun b hb=>?_,h7.keep rfl (by intro e;cases e) fun b hb=>?_⟩
 ·obtain ⟨q1,q2⟩:=hk b (.inl hb)
  exact ⟨q1.trans hb,q2⟩
 ·obtain ⟨q1,q2⟩:=hk b (.inl hb)
  exact ⟨q1.trans hb,q2⟩
 ·obtain ⟨q1,q2⟩:=hk b (.inr hb)
  exact ⟨q1.trans hb,q2⟩
theorem MapB.keep {w w':World} {m:Nat} {ks:List (List Int)} (h:MapB w m ks) (hk:w'.heap[m]? = w.heap[m]?):MapB w' m ks:=by
 obtain ⟨es,clock,h1,h2⟩:=h
 exact ⟨es,clock,hk.trans h1,h2⟩
theorem RdAt.keep {lo:Nat} {w w':World} {R M:Nat} {v:Value} {role:Nat->Role} {x:RSt} (h:RdAt lo w R M v role x) (hk:∀ b,role b≠.no->w'.heap[b]? = w.heap[b]?) (hs:w.heap.size<=w'.heap.size):RdAt lo w' R M v role x:=by
 obtain ⟨xs,u1,u2,u3⟩:=h.hU
 refine ⟨(hk R (by rw [h.rR];intro e;cases e)).trans h.hR,h.rR,h.hM.keep (hk M (by rw [h.rM];intro e;cases e)),h.rM,⟨xs,owns_keep u1 fun b hb=>hk b (by rw [u2 b hb];intro e;cases e),u2,fun i u hu=>(u3 i u hu).keep fun b hb=>⟨rfl,hk b ?_⟩⟩,fun b hb=>?_,h.wf⟩
 ·rcases hb with hb | hb <;> (rw [hb];intro e;cases e)
 ·obtain ⟨h1,h2⟩:=h.lt b hb
  exact ⟨h1,by omega⟩
theorem RdAt.below {lo:Nat} {w w':World} {R M:Nat} {v:Value} {role:Nat->Role} {x:RSt} (h:RdAt lo w R M v role x) (hb:Below w.heap.size w w'):RdAt lo w' R M v role x:=
 h.keep (fun b hr=>hb.block b (h.lt b hr).2) hb.size
theorem user_cells {lo:Nat} {w:World} {us:List UserD} {U n cap:Nat} {xs:List Value} (h:w.ownsRow lo 63 6 (.slice (some ⟨U,0,none⟩) n cap) us.length xs) {i:Nat} {c0 c1 c2 c3 c4 c5:Value} (hc:(xs.drop (i*6)).take 6=[c0,c1,c2,c3,c4,c5]) :
  w.cell? ⟨U,i*6,none⟩=some c0 /\ w.cell? ⟨U,i*6+1,none⟩=some c1 /\ w.cell? ⟨U,i*6+2,none⟩=some c2 /\ w.cell? ⟨U,i*6+3,none⟩=some c3 /\ w.cell? ⟨U,i*6+4,none⟩=some c4 /\ w.cell? ⟨U,i*6+5,none⟩=some c5:=by
 have key:∀ j u,[c0,c1,c2,c3,c4,c5][j]? = some u->w.cell? ⟨U,i*6+j,none⟩=some u:=fun j u hj=>by
  have hj6:j < 6:=by
   have:=(List.getElem?_eq_some_iff.1 hj).1
   simpa using this
  rw [<-hc,List.getElem?_take,if_pos hj6,List.getElem?_drop] at hj
  have:=h.cells (g:=U) rfl (i*6+j) u hj
  rw [add_at,Nat.zero_add] at this
  exact this
 exact ⟨key 0 _ rfl,key 1 _ rfl,key 2 _ rfl,key 3 _ rfl,key 4 _ rfl,key 5 _ rfl⟩
theorem fn_calls {P:Program} {W:World} {T:Tab} (hT:∀ p∈T,∃ ty fr,W.heap[p.1]? = some (.cells p.2 ty fr)) {f:FuncId} {fd:Func} {s:Sig} {fn:s.Fn} {al:List Arg} {y:s.out.D} (hS:SoundFn P T f s fn) (hps:s.ps=al.map Arg.par) (hf:P.funcs[f]? = some fd) (hok:∀ a∈al,a.ok W)
  (happ:appF ((parsT s.ps).map LT.ty) fn.f (al.flatMap fun a=>a.ls.map datOf)=some y) :
  Calls P f ⟨al.map Arg.v⟩ W fun e W'=>∃ us g' st',e=.returned (retV us) /\ us.length=s.rs.length /\ exitSt s y=some st' /\ Below W.heap.size W W' /\ ∀ i,RelP (F00 W fd.ntmps) g' W' st'.O (fun i=>us.getD i undef) (us.getD i undef) (st'.φ i):=by
 obtain ⟨ps,rs⟩:=s
 have hps:ps=al.map Arg.par:=hps
 subst hps
 obtain ⟨st,h1,h2⟩:=args_rel (rs:=rs) hok fd.ntmps
 refine (hS (F00 W fd.ntmps) (G00 W) st _ y _ W ⟨al.map Arg.v⟩ (tab_start hT) h1 happ h2 rfl (fun fd' h=>by rw [hf] at h;cases h;rfl) (by simp) (fun i=>by simp [Array.getD_eq_getD_getElem?,List.getD_eq_getElem?_getD])).mono fun e W' ⟨us,g',st',q1,q2,q3,q4,_⟩=>?_
 exact ⟨us,g',st',q1,q2,q3,⟨q4.fr.os,q4.fr.tape,q4.fr.output,q4.fr.size,fun k hk=>q4.fr.old k hk fun _ h=>h⟩,fun i=>q4.slots i⟩
theorem rInt {F:Fr} {g:Gh} {w:World} {O:Tok->Bool} {tmf:Nat->Value} {u:Value} {k:IntKind} {x:Int} (h:RelP F g w O tmf u (.w false [.d (.int k) x])):u=.int k x /\ (Lit.int k x).wf=true:=by
 obtain ⟨h1,h2⟩:=rel_leaf.1 h
 exact ⟨by injection h1,h2⟩
theorem rBool {F:Fr} {g:Gh} {w:World} {O:Tok->Bool} {tmf:Nat->Value} {u:Value} {x:Bool} (h:RelP F g w O tmf u (.w false [.d .bool x])):u=.bool x:=by
 have h1:=rel_leaf.1 h
 have h1:[u]=[.bool x]:=h1
 injection h1
end Go.Proofs.YtgfmfgombmpodaaGreatDoor
namespace Go.Proofs.YtgfmfgombmpodaaGreatDoor
open Go.RowKit Pv
set_option linter.unusedVariables false
theorem RdAt.roles {lo:Nat} {w:World} {R M:Nat} {v:Value} {role role':Nat->Role} {x:RSt} (h:RdAt lo w R M v role x) (hk:∀ b,role b≠.no->role' b=role b) (hl:∀ b,role' b≠.no->lo<=b /\ b < w.heap.size):RdAt lo w R M v role' x:=by
 obtain ⟨xs,u1,u2,u3⟩:=h.hU
 refine ⟨h.hR,(hk R (by rw [h.rR];intro e;cases e)).trans h.rR,h.hM,(hk M (by rw [h.rM];intro e;cases e)).trans h.rM,⟨xs,u1,fun b hb=>(hk b (by rw [u2 b hb];intro e;cases e)).trans (u2 b hb),fun i u hu=>(u3 i u hu).keep fun b hb=>⟨hk b ?_,rfl⟩⟩,hl,h.wf⟩
 rcases hb with hb | hb <;> (rw [hb];intro e;cases e)
open Classical in
noncomputable def roleOf (role:Nat->Role) (v:Value) (ro:Role):Nat->Role:=fun b=>if v.ownBlock=some b then ro else role b
theorem roleOf_self {role:Nat->Role} {v:Value} {ro:Role} {b:Nat} (h:v.ownBlock=some b):roleOf role v ro b=ro:=by
 unfold roleOf
 rw [if_pos h]
theorem roleOf_other {role:Nat->Role} {v:Value} {ro:Role} {b:Nat} (h:v.ownBlock≠some b):roleOf role v ro b=role b:=by
 unfold roleOf
 rw [if_neg h]
theorem take6_app {xs news:List Value} {n i:Nat} (hx:xs.length=n*6) (hi:i < n):((xs++news).drop (i*6)).take 6=(xs.drop (i*6)).take 6:=by
 rw [List.drop_append_of_le_length (by omega),List.take_append_of_le_length (by rw [List.length_drop];omega)]
theorem set_heap {w:World} {b o:Nat} {u:Value} {cur:Array Value} {T:TypeId} (h:w.heap[b]? = some (.cells cur T (0,0))):(w.setCell ⟨b,o,none⟩ u).heap[b]? = some (.cells (cur.setIfInBounds o u) T (0,0)):=by
 rw [setCell_heap,if_pos rfl,h]
 rfl
theorem step_append_own_at {P:Program} {ops:Array Oper} {o:Oper} {a:Act} {w:World} {K:Act->World->Prop} {Q:Exit->Act->World->Prop} {E:Prop}
  (hg:o.guard=none) (s x:Operand) (t:TypeId) (hop:o.op=Op.call { callee:=Callee.builtin Builtin.append,args:=#[s,x],argTypes:=#[t,t] })
  (base:Nat) (e:TypeId) (i:TypeInfo) (z:Value) (size bytes:Nat) (h1:P.underlying t=some (.slice e)) (h2:P.info? e=some i) (h3:i.zero=some z) (h4:i.size=size) (h5:i.bytes=bytes) (h6:z.cells.size=size) (h7:0 < size)
  (v:Value) (n:Nat) (xs:List Value) (hs:a.eval s=v) (hown:w.ownsRow base e size v n xs)
  (ad:Addr) (m c:Nat) (news:List Value) (hx:a.eval x=.slice (some ad) m c) (hn:news.length=m*size) (hc:∀ j u,news[j]? = some u->w.cell? (ad.add j)=some u) (h1c:∀ u∈news,u.oneCell'=true)
  (b1:n+m<=maxLen) (b2:(n+m)*bytes<=140737488355328) (hbase:base<=w.heap.size)
  (hK:∀ v' w',w'.ownsRow base e size v' (n+m) (xs++news)->w.grownBy w' v.ownBlock->(v'.ownBlock=v.ownBlock \/ v'.ownBlock=some w.heap.size)->K (a.put o.dst v') w') :
  if Region.wanted o (yielded ops a.tmps)=true then Oper.wp P o a w K Q else E:=by
 have hw:Region.wanted o (yielded ops a.tmps)=true:=by simp [Region.wanted,hg]
 rw [if_pos hw]
 obtain ⟨v',w',hrun,r1,r2,_,r3⟩:=run_append_own_at (P:=P) w base t o.type e i z size bytes h1 h2 h3 h4 h5 h6 h7 v n xs hown ad m c news hn hc h1c b1 b2 hbase
 unfold Oper.wp
 simp [execOp,hop,resolve,invoke,builtin,hs,hx,hrun,Result.andThen]
 exact hK v' w' r1 r2 r3
theorem cells_new (w:World) (T:TypeId) (cs:List Value):∀ j u,cs[j]? = some u->(w.alloc (.cells cs.toArray T)).cell? ((⟨w.heap.size,0,none⟩:Addr).add j)=some u:=fun j u hj=>by
 rw [add_at,Nat.zero_add,cell_at (heap_alloc_new w _)]
 simpa using hj
theorem RowAt.more {lo:Nat} {w:World} {role role':Nat->Role} {ro:Role} {E:TypeId} {e:Ty} {l:List e.D} {v:Value} (h:RowAt lo w role ro E e l v) (hk:∀ b,v.ownBlock=some b->role' b=role b):RowAt lo w role' ro E e l v:=by
 obtain ⟨xs,h1,h2,h3⟩:=h
 exact ⟨xs,h1,fun b hb=>(hk b hb).trans (h2 b hb),h3⟩
theorem userAt_new {lo:Nat} {w:World} {role:Nat->Role} {i:Nat} {nm:ByteArray} {vs vd:Value} {sa di:List Int} {n:Int} {p q:Nat} (hz:nm.size<=maxLen) (hn:(Lit.int .i64 n).wf=true) (hs:RowAt lo w role .flat 5 (.int .u8) sa vs) (hd:RowAt lo w role .flat 5 (.int .u8) di vd) :
  UserAt lo w role i (bytesL nm,(sa,di),n,(p,q),[]) [.string nm,vs,vd,.int .i64 n,.complex .f64 p q,.slice none 0 0]:=by
 have h0:RowAt lo w role (.row i) 68 ruleT ([]:List ruleT.D) (.slice none 0 0):=⟨[],World.ownsRow_nil w lo _ _,fun b hb=>(by cases hb),fun i x hx=>(by simp at hx)⟩
 exact ⟨nm,vs,vd,.slice none 0 0,rfl,rfl,hz,hn,hs,hd,h0⟩
theorem own_slice {lo:Nat} {w:World} {E:TypeId} {s n:Nat} {v:Value} {xs:List Value} (h:w.ownsRow lo E s v n xs):∃ a c,v=.slice a n c:=by
 rcases h.2 with ⟨rfl,rfl⟩ | ⟨g,cap,cur,rfl,_⟩
 ·exact ⟨_,_,rfl⟩
 ·exact ⟨_,_,rfl⟩
end Go.Proofs.YtgfmfgombmpodaaGreatDoor
namespace Go.Proofs
open Go.Shelf Go.RowKit Go.Lib Go.Sort
def Tryz.laysM171_ren:Go.Shelf.Ren:=⟨fun | 171=>67 | 243=>108 | 246=>144 | 283=>179 | 284=>180 | 285=>181 | 286=>182 | 129=>208 | 317=>207 | 318=>209 | 319=>210 | 320=>211 | 337=>235 | 338=>236 | n=>n,fun | 3=>3 | 9=>9 | 2=>2 | 4=>4 | 171=>241 | 0=>0 | 53=>218 | 37=>32 | 5=>5 | 173=>244 | 212=>268 | 51=>212 | 20=>20 | 213=>269 | 46=>105 | 232=>297 | 233=>298 | n=>n,fun | 17=>0 | 18=>6 | 19=>7 | n=>n⟩
theorem Tryz.laysM171:Go.Proofs.LaysM.n171 Tryz.prog Tryz.laysM171_ren:={
 mixed:=by kernel_rfl
 f129:=Tryz.func208.trans (congrArg some (by kernel_rfl))
 f171:=Tryz.func67.trans (congrArg some (by kernel_rfl))
 f243:=Tryz.func108.trans (congrArg some (by kernel_rfl))
 f246:=Tryz.func144.trans (congrArg some (by kernel_rfl))
 f283:=Tryz.func179.trans (congrArg some (by kernel_rfl))
 f284:=Tryz.func180.trans (congrArg some (by kernel_rfl))
 f285:=Tryz.func181.trans (congrArg some (by kernel_rfl))
 f286:=Tryz.func182.trans (congrArg some (by kernel_rfl))
 f317:=Tryz.func207.trans (congrArg some (by kernel_rfl))
 f318:=Tryz.func209.trans (congrArg some (by kernel_rfl))
 f319:=Tryz.func210.trans (congrArg some (by kernel_rfl))
 f320:=Tryz.func211.trans (congrArg some (by kernel_rfl))
 f337:=Tryz.func235.trans (congrArg some (by kernel_rfl))
 f338:=Tryz.func236.trans (congrArg some (by kernel_rfl))
 t0:=Tryz.underlying0
 a0:=Tryz.isAgg0
 z0:=Tryz.sizeOf0
 v0:=Tryz.zeroValue0
 t2:=Tryz.underlying2
 a2:=Tryz.isAgg2
 z2:=Tryz.sizeOf2
 v2:=Tryz.zeroValue2
 t3:=Tryz.underlying3
 a3:=Tryz.isAgg3
 z3:=Tryz.sizeOf3
 v3:=Tryz.zeroValue3
 t4:=Tryz.underlying4
 a4:=Tryz.isAgg4
 z4:=Tryz.sizeOf4
 v4:=Tryz.zeroValue4
 t5:=Tryz.underlying5
 a5:=Tryz.isAgg5
 z5:=Tryz.sizeOf5
 v5:=Tryz.zeroValue5
 t9:=Tryz.underlying9
 a9:=Tryz.isAgg9
 z9:=Tryz.sizeOf9
 v9:=Tryz.zeroValue9
 t20:=Tryz.underlying20
 a20:=Tryz.isAgg20
 z20:=Tryz.sizeOf20
 v20:=Tryz.zeroValue20
 t37:=Tryz.underlying32
 a37:=Tryz.isAgg32
 z37:=Tryz.sizeOf32
 v37:=Tryz.zeroValue32
 t46:=Tryz.underlying105
 a46:=Tryz.isAgg105
 z46:=Tryz.sizeOf105
 v46:=Tryz.zeroValue105
 t51:=Tryz.underlying212
 a51:=Tryz.isAgg212
 z51:=Tryz.sizeOf212
 v51:=Tryz.zeroValue212
 t53:=Tryz.underlying218
 a53:=Tryz.isAgg218
 z53:=Tryz.sizeOf218
 v53:=Tryz.zeroValue218
 t171:=Tryz.underlying241
 a171:=Tryz.isAgg241
 z171:=Tryz.sizeOf241
 v171:=Tryz.zeroValue241
 t173:=Tryz.underlying244
 a173:=Tryz.isAgg244
 z173:=Tryz.sizeOf244
 v173:=Tryz.zeroValue244
 t212:=Tryz.underlying268
 a212:=Tryz.isAgg268
 z212:=Tryz.sizeOf268
 v212:=Tryz.zeroValue268
 t213:=Tryz.underlying269
 a213:=Tryz.isAgg269
 z213:=Tryz.sizeOf269
 t232:=Tryz.underlying297
 a232:=Tryz.isAgg297
 z232:=Tryz.sizeOf297
 v232:=Tryz.zeroValue297
 t233:=Tryz.underlying298
 a233:=Tryz.isAgg298
 z233:=Tryz.sizeOf298
 v233:=Tryz.zeroValue298
 g17:=by kernel_rfl
 g18:=by kernel_rfl
 g19:=by kernel_rfl
 i0:=by kernel_rfl
 i2:=by kernel_rfl
 i3:=by kernel_rfl
 i4:=by kernel_rfl
 i5:=by kernel_rfl
 i9:=by kernel_rfl
 i20:=by kernel_rfl
 i37:=by kernel_rfl
 i46:=by kernel_rfl
 i51:=by kernel_rfl
 i53:=by kernel_rfl
 i171:=by kernel_rfl
 i173:=by kernel_rfl
 i212:=by kernel_rfl
 i232:=by kernel_rfl
 i233:=by kernel_rfl
 m17:=by kernel_rfl
 m18:=by kernel_rfl
 m19:=by kernel_rfl }
theorem Tryz.strconv_Itoa (n : Int) (h0 : -9223372036854775808 <= n) (h1 : n <= 9223372036854775807) (w : World) (htab : Lib.TabIs Tryz.prog w "internal/strconv.uint64pow10" .u64 Lib.pow10Tab) :
  Calls Tryz.prog 67 #[.int .i64 n] w fun e w'=>e=.returned (.string ⟨(Lib.itoa n).toArray⟩) /\ ∃ k os,w'=grow (w.drewN k) os:=Any.strconv_Itoa Tryz.laysM171 n h0 h1 w htab
end Go.Proofs
namespace Go.Proofs.YtgfmfgombmpodaaGreatDoor
open Go.RowKit Pv
set_option linter.unusedVariables false
def itoaI (n:Int):List Int:=(Lib.itoa n).map byteI
def tab_pow10:Nat×Array Value:=tabOf 0 .u64 Lib.pow10Tab
def F_strconv_Itoa_sig:Sig:=⟨[.v false [.d (.int .i64)]],[(false,[.d .str])]⟩
def F_strconv_Itoa (n:Int):Option (List Int):=some (itoaI n)
theorem wf_i64 {n:Int} (h:(Lit.int .i64 n).wf=true) : -9223372036854775808<=n /\ n<=9223372036854775807:=by
 simp [Lit.wf,IntKind.min,IntKind.max,IntKind.signed,IntKind.bits] at h
 omega
theorem F_strconv_Itoa_sound {T:Tab} (h_pow10:tab_pow10∈T):SoundFn Tryz.prog T 67 F_strconv_Itoa_sig ⟨F_strconv_Itoa⟩:=by
 refine sound_d rfl fun F g O xs ls y tmf w args hT hls happ hsz hr=>?_
 obtain ⟨(n:Int),xs',rfl,h2⟩:=appF_inv_c (ts:=[]) happ
 obtain ⟨rfl,h3⟩:=appF_inv_n h2
 have hls':some [Leaf.d (.int .i64) n]=some ls:=hls
 injection hls' with hls'
 subst hls'
 obtain ⟨e0,e1⟩:=rel_int (hr 0)
 have ha:args = #[.int .i64 n]:=by
  obtain ⟨al⟩:=args
  match al,hsz with
  | [v],_=>
   have h:v=.int .i64 n:=e0
   rw [h]
 subst ha
 have h3:itoaI n=y:=by
  have h3:some (itoaI n)=some y:=h3
  injection h3
 have hn:=wf_i64 e1
 refine (Tryz.strconv_Itoa n hn.1 hn.2 w (tabIs_now hT h_pow10 (by kernel_rfl))).mono ?_
 rintro e w' ⟨he,k,os,rfl⟩
 refine ⟨[.string ⟨(Lib.itoa n).toArray⟩],[.d .str y],he,rfl,rfl,below_grow _ _ _,fun i hi=>?_⟩
 match i,hi with
 | 0,_=>
  refine ⟨[.string ⟨(Lib.itoa n).toArray⟩],⟨[.string ⟨(Lib.itoa n).toArray⟩],[],rfl,⟨_,rfl,?_,?_⟩,rfl⟩,rfl⟩
  ·rw [<-h3]
   show (Lib.itoa n).toArray.toList.map byteI=_
   rw [List.toList_toArray]
   rfl
  ·show (Lib.itoa n).toArray.size<=maxLen
   have:=Lib.itoa_length_le n hn.1 hn.2
   rw [List.size_toArray]
   have hm:maxLen=9223372036854775807:=rfl
   omega
def lowc (c:Int):Int:=bits BinOp.or IntKind.u8 c 32
def hexv (c:Int):Option Int:=if 48<=c /\ c<=57 then some (c - 48) else if 97<=lowc c /\ lowc c<=102 then some (lowc c - 87) else none
def hexN (l:List Int):Nat->Option Int
 | 0=>some 0
 | k+1=>match hexN l k,hexv (l.getD k 0) with | some n,some d=>some (n*16+d) | _,_=>none
def puxP (l:List Int):Int×Bool:=match hexN l 2 with
 | some n=>(n,false)
 | none=>(0,true)
def F_strconv_ParseUint (l:List Int) (b k:Int):Option (Int×Bool):=cond (Nat.beq l.length 2&&(decide (b=16)&&decide (k=8))) (some (puxP l)) none
end Go.Proofs.YtgfmfgombmpodaaGreatDoor
namespace Go.Proofs
open Go.Shelf Go.RowKit Go.Lib Go.Sort
def Tryz.lays169_ren:Go.Shelf.Ren:=⟨fun | 169=>92 | n=>n,fun | 70=>153 | 9=>9 | 0=>0 | 72=>155 | 37=>32 | 127=>197 | 3=>3 | 5=>5 | n=>n,fun | n=>n⟩
theorem Tryz.lays169:Go.Proofs.Lays.n169 Tryz.prog Tryz.lays169_ren:={
 mixed:=by kernel_rfl
 f169:=Tryz.func92.trans (congrArg some (by kernel_rfl))
 t0:=Tryz.underlying0
 a0:=Tryz.isAgg0
 z0:=Tryz.sizeOf0
 v0:=Tryz.zeroValue0
 t3:=Tryz.underlying3
 a3:=Tryz.isAgg3
 z3:=Tryz.sizeOf3
 v3:=Tryz.zeroValue3
 t9:=Tryz.underlying9
 a9:=Tryz.isAgg9
 z9:=Tryz.sizeOf9
 v9:=Tryz.zeroValue9
 t37:=Tryz.underlying32
 a37:=Tryz.isAgg32
 z37:=Tryz.sizeOf32
 v37:=Tryz.zeroValue32
 t70:=Tryz.underlying153
 a70:=Tryz.isAgg153
 z70:=Tryz.sizeOf153
 v70:=Tryz.zeroValue153
 t72:=Tryz.underlying155
 a72:=Tryz.isAgg155
 z72:=Tryz.sizeOf155
 v72:=Tryz.zeroValue155
 t127:=Tryz.underlying197
 a127:=Tryz.isAgg197
 z127:=Tryz.sizeOf197
 v127:=Tryz.zeroValue197 }
theorem Tryz.Builder_Extra_169:Builder.Extra Tryz.prog Tryz.lays169_ren:={
 sizeBuilder:=by kernel_rfl
 liesBuilder:=by kernel_rfl
 t5:=Tryz.underlying5
 a5:=Tryz.isAgg5
 z5:=Tryz.sizeOf5
 v5:=Tryz.zeroValue5
 infoByte:=by kernel_rfl
 cellsByte:=by kernel_rfl
 sizeByte:=by kernel_rfl
 neB5:=by decide }
theorem Tryz.Builder_String_any_k (B b:Nat) (l:List UInt8) (w:World) (h:Lib.IsBuilderF 155 5 B b (Lib.byteCells l) w) (hBw:B<=w.heap.size) :
  Calls Tryz.prog 92 #[.pointer (some ⟨b,0,none⟩)] w fun e w'=>e=.returned (.string ⟨l.toArray⟩) /\ (Lib.IsBuilderF 155 5 B b (Lib.byteCells l) w' /\ Below B w w' /\ Lib.OthersKept 5 (some b) w w'):=Any.Builder_String_any_k Tryz.lays169 Tryz.Builder_Extra_169 B b l w h hBw
end Go.Proofs
namespace Go.Proofs.YtgfmfgombmpodaaGreatDoor
open Go.RowKit Go.Shelf
set_option linter.unusedVariables false
theorem szB:(Tryz.prog.info? 155).map (·.size)=some 2:=by kernel_rfl
theorem liB:liesAt Tryz.prog Tryz.prog.depth 155 (2 / Tryz.prog.cellsOf 155) 0 155 1=true:=by kernel_rfl
theorem infB:(Tryz.prog.info? 5).map (fun i=>(i.zero,i.size,i.bytes))=some (some (.int .u8 0),1,1):=by kernel_rfl
set_option maxHeartbeats 1000000 in
theorem cc_used (b:Nat) (w:World) (h0:w.cell? ⟨b,0,none⟩=some (.pointer (some ⟨b,0,none⟩))) :
  Calls Tryz.prog 129 #[.pointer (some ⟨b,0,none⟩)] w fun e w'=>e=.returned (.tuple #[]) /\ w'=w:=by
 obtain ⟨j,hj,_⟩:=Option.map_eq_some_iff.1 szB
 go_enter Tryz.func129,Tryz.ntmps129
 go_wp2
 rw [Lib.run_neq_ptr_same w _ Tryz.underlying153 hj]
 go_wp2
 go_end0
 exact ⟨rfl,rfl⟩
set_option maxHeartbeats 1000000 in
theorem cc_fresh (b:Nat) (w:World) (h0:w.cell? ⟨b,0,none⟩=some (.pointer none)) (hsh:w.shape? b=some (155,2)) (hfz:w.frozen? ⟨b,0,none⟩=false) :
  Calls Tryz.prog 129 #[.pointer (some ⟨b,0,none⟩)] w fun e w'=>e=.returned (.tuple #[]) /\ w'=w.setCell ⟨b,0,none⟩ (.pointer (some ⟨b,0,none⟩)):=by
 obtain ⟨j,hj,hjs⟩:=Option.map_eq_some_iff.1 szB
 go_enter Tryz.func129,Tryz.ntmps129
 go_wp2
 rw [Lib.run_to_unsafe w ⟨b,0,none⟩ Tryz.underlying153 Tryz.underlying226 hj (by rw [hjs];decide) hsh (Nat.zero_lt_succ 1)]
 simp only [Result.andThen]
 rw [Oper.upon_value]
 go_wp2
 rw [run_callFunc_extern Tryz.func161 (by kernel_rfl) (by kernel_rfl) (by kernel_rfl) (e:=Extern.AbiNoEscape.same) (by kernel_rfl)]
 rw [Lib.run_noEscape]
 simp only [Result.andThen]
 rw [Oper.upon_value]
 go_wp2
 rw [Lib.run_from_unsafe w ⟨b,0,none⟩ Tryz.underlying226 Tryz.underlying153 hj hsh liB]
 simp only [Result.andThen]
 rw [Oper.upon_value]
 go_wp2
 go_end0
 exact ⟨rfl,rfl⟩
theorem cc_k (B b:Nat) (bs:List Value) (w:World) (h:Lib.IsBuilderF 155 5 B b bs w) :
  Calls Tryz.prog 129 #[.pointer (some ⟨b,0,none⟩)] w fun e w'=>e=.returned (.tuple #[]) /\ (Lib.BuilderAtF 155 5 B b (.pointer (some ⟨b,0,none⟩)) bs w' /\ Below B w w' /\ Lib.OthersKept 5 (some b) w w'):=by
 rcases h with h | h
 ·refine (cc_fresh b w h.cell0 h.shape h.frozen0).mono ?_
  rintro e w' ⟨rfl,rfl⟩
  exact ⟨rfl,h.used _,(Below.refl B w).setCell (p:=⟨b,0,none⟩) h.1 _,(Lib.OthersKept.refl _ _ w).setCell ⟨b,0,none⟩ rfl _⟩
 ·refine (cc_used b w h.cell0).mono ?_
  rintro e w' ⟨rfl,rfl⟩
  exact ⟨rfl,h,Below.refl B _,Lib.OthersKept.refl _ _ _⟩
set_option maxHeartbeats 2000000 in
theorem wb_k (B b:Nat) (bs:List Value) (c:Int) (w:World) (h:Lib.IsBuilderF 155 5 B b bs w) (hlen:bs.length+1<=140737488355328) (hBw:B<=w.heap.size) :
  Calls Tryz.prog 91 #[.pointer (some ⟨b,0,none⟩),.int .u8 c] w fun e w'=>e=.returned .nilIface /\ (Lib.BuilderAtF 155 5 B b (.pointer (some ⟨b,0,none⟩)) (bs++[.int .u8 c]) w' /\ Below B w w' /\ Lib.OthersKept 5 (some b) w w'):=by
 obtain ⟨i0,hi,hz0,hz1,hz2⟩:=info_parts infB
 go_enter Tryz.func91,Tryz.ntmps91
 go_wp2_with (go_at_call 129;refine (cc_k B b bs _ h).mono ?_)
 rintro e w1 ⟨rfl,h1,hb1,hk1⟩
 obtain ⟨hB,v,hbk,hown,hne⟩:=h1
 have c0:w1.cell? ⟨b,0,none⟩=some (.pointer (some ⟨b,0,none⟩)):=by rw [Lib.cell_of_heap hbk];rfl
 have c1:w1.cell? ⟨b,1,none⟩=some v:=by rw [Lib.cell_of_heap hbk];rfl
 go_wp2_with (at_builtin;refine wpList_append_ownF _ rfl _ _ 32 rfl B 5 i0 (.int .u8 0) 1 1 Tryz.underlying32 hi hz0 hz1 hz2 rfl (by decide) _ _ _ rfl (hown.alloc _) ⟨w1.heap.size,0,none⟩ 1 1 [.int .u8 c] rfl rfl ?c1 ?c2 ?c3 ?c4 ?c5 ?_)
 case c1=>
  intro j u hj
  match j,hj with
  | 0,hj=>simp at hj;subst hj;simp [Addr.add]
 case c2=>intro u hu;simp at hu;subst hu;rfl
 case c3=>unfold maxLen;omega
 case c4=>omega
 case c5=>have:=hb1.size;simp;omega
 intro v' w2 hown' hgrow _
 have hlt:b < w1.heap.size:=by
  rcases Nat.lt_or_ge b w1.heap.size with h' | h'
  ·exact h'
  ·simp [Array.getElem?_eq_none h'] at hbk
 have hb2:w2.heap[b]? = some (.cells #[.pointer (some ⟨b,0,none⟩),v] 155 (0,0)):=by
  rw [hgrow.block b (by simp;omega) (fun e=>hne e.symm),Lib.alloc_old w1 _ b hlt]
  exact hbk
 have d0:w2.cell? ⟨b,0,none⟩=some (.pointer (some ⟨b,0,none⟩)):=by rw [Lib.cell_of_heap hb2];rfl
 have d1:w2.cell? ⟨b,1,none⟩=some v:=by rw [Lib.cell_of_heap hb2];rfl
 have f1:w2.frozen? ⟨b,1,none⟩=false:=Lib.frozen_of_heap hb2 1
 obtain ⟨g,cap,rfl⟩:∃ g cap,v'=.slice (some ⟨g,0,none⟩) (bs.length+1) cap:=by
  rcases hown'.2 with ⟨_,h0⟩ | ⟨g,cap,cur,fz,hv,_⟩
  ·omega
  ·exact ⟨g,cap,hv⟩
 go_wp2
 go_ret
 refine ⟨rfl,?_,?_,((hk1.alloc _).grown hgrow (Lib.ownsRowF_kind (hown.alloc _))).setCell ⟨b,1,none⟩ rfl _⟩
 ·exact Lib.BuilderAtF.put (T:=155) (e:=5) hB hb2 (bs':=bs++[.int .u8 c]) (by simpa using hown') (by decide)
 ·exact ((hb1.alloc (by have:=hb1.size;omega) _).grown hgrow (by have:=hb1.size;simp;omega) (fun k hk=>(hown.lt k hk).1)).setCell (p:=⟨b,1,none⟩) hB _
end Go.Proofs.YtgfmfgombmpodaaGreatDoor
namespace Go.Proofs.YtgfmfgombmpodaaGreatDoor
open Go.RowKit Go.Shelf Pv
set_option linter.unusedVariables false
def hexA:ByteArray:=⟨#[48,49,50,51,52,53,54,55,56,57,97,98,99,100,101,102]⟩
theorem hexA_size:hexA.size=16:=rfl
def hexs:List UInt8:=[48,49,50,51,52,53,54,55,56,57,97,98,99,100,101,102]
theorem hex_at {q:Nat} (h:q < 16):hexs.getD q 0=hexA[q]'(by rw [hexA_size];exact h):=by
 rw [List.getD_eq_getElem?_getD,List.getElem?_eq_getElem (show q < hexs.length from h)]
 rfl
def hex2 (x:Int):List UInt8:=[hexs.getD (x / 16).toNat 0,hexs.getD (x % 16).toNat 0]
def hexK (l:List Int):Nat->List UInt8
 | 0=>[]
 | k+1=>hexK l k++hex2 (l.getD k 0)
theorem hexK_len (l:List Int):∀ k,(hexK l k).length=2*k
 | 0=>rfl
 | k+1=>by
  show (hexK l k++hex2 _).length=_
  rw [List.length_append,hexK_len l k]
  show 2*k+2=_
  omega
theorem and15_f:∀ q:Fin 256,bits BinOp.and IntKind.u8 (q.val:Int) 15=(q.val:Int) % 16:=by decide +kernel
theorem and15 {x:Int} (h0:0<=x) (h1:x < 256):bits BinOp.and IntKind.u8 x 15=x % 16:=by
 have:=and15_f ⟨x.toNat,by omega⟩
 simp only [show ((x.toNat:Nat):Int)=x by omega] at this
 exact this
def hexB (l:List Int):List UInt8:=hexK l l.length
set_option maxHeartbeats 4000000 in
set_option maxRecDepth 1000000 in
theorem hex_walk (l:List Int) (hl:∀ x∈l,0<=x /\ x < 256) (a:Option Addr) (n c:Nat) (hlen:l.length=n) (hn:n<=1099511627776) (w:World) (hcells:∀ i x,l[i]? = some x -> ∃ ad,a=some ad /\ w.cell? (ad.add i)=some (.int .u8 x)) :
  Calls Tryz.prog 69 #[.slice a n c] w fun e w'=>e=.returned (.string ⟨(hexB l).toArray⟩) /\ Below w.heap.size w w':=by
 go_enter Tryz.func69,Tryz.ntmps69
 go_wp2
 go_loopw [8] (fun v wr=>∃ (i:Nat),v=.int .i64 i /\ i<=n /\ Lib.IsBuilderF 155 5 w.heap.size w.heap.size (Lib.byteCells (hexK l i)) wr /\ Below w.heap.size w wr) (fun i _=>n+3 - (intOf i).toNat)
 case atStart=>
  refine ⟨0,rfl,by omega,Lib.IsBuilderF.of (Lib.fresh_isBuilder 155 5 w),(Below.refl _ w).alloc (Nat.le_refl _) _⟩
 case round=>
  obtain ⟨i,rfl,hk,hI,hb⟩:=hrel
  have hal:=hexK_len l i
  obtain ⟨acc,hacc⟩:∃ acc,hexK l i=acc:=⟨_,rfl⟩
  rw [hacc] at hI hal
  obtain ⟨wo,rfl⟩:∃ wo:World,wo=wr:=⟨_,rfl⟩
  have hsz:w.heap.size<=wo.heap.size:=hb.size
  by_cases hlt:i < n
  ·obtain ⟨ad,rfl,hc0⟩:=hcells i _ (List.getElem?_eq_getElem (by omega))
   have hc:=hb.cell (cell_lt hc0)
   rw [hc0] at hc
   obtain ⟨x,hx⟩:∃ x,l[i]=x:=⟨_,rfl⟩
   have hx01:=hl _ (List.getElem_mem (show i < l.length by omega))
   rw [hx] at hc hx01 hc0
   have hsuc:hexK l (i+1)=acc++hex2 x:=by
    show hexK l i++hex2 (l.getD i 0)=_
    rw [hacc,List.getD_eq_getElem?_getD,List.getElem?_eq_getElem (by omega),Option.getD_some,hx]
   obtain ⟨hx0,hx1⟩:=hx01
   clear hcells hl
   have hlb:(Lib.byteCells acc).length+1<=140737488355328:=by rw [Lib.byteCells_length];omega
   go_wp2_with (go_at_call 91;refine (wb_k w.heap.size w.heap.size _ _ _ hI hlb hsz).mono ?_)
   rintro e W1 ⟨rfl,h1,b1,k1⟩
   have hsz1:w.heap.size<=W1.heap.size:=(hb.trans b1).size
   have hc1:W1.cell? (ad.add i)=some (Value.int IntKind.u8 x):=by
    rw [(hb.trans b1).cell (cell_lt hc0)];exact hc0
   obtain ⟨L1,hL1⟩:∃ L1,(Lib.byteCells acc++[Value.int IntKind.u8 ((hexA[(x / 16).toNat]'(by rw [hexA_size];omega)).toNat:Nat)])=L1:=⟨_,rfl⟩
   have h1:Lib.BuilderAtF 155 5 w.heap.size w.heap.size (Value.pointer (some { block:=w.heap.size,off:=0 })) L1 W1:=by rw [<-hL1];exact h1
   have hlb1:L1.length+1<=140737488355328:=by rw [<-hL1,List.length_append,Lib.byteCells_length];show _+1+1<=_;omega
   have had:=and15 hx0 hx1
   clear hI
   go_wp2_with (go_at_call 91;refine (wb_k w.heap.size w.heap.size _ _ _ (Or.inr h1) hlb1 hsz1).mono ?_)
   rintro e W2 ⟨rfl,h2,b2,k2⟩
   go_wp2
   refine ⟨⟨i+1,?relC,by omega,?relD,(hb.trans b1).trans b2⟩,?meaS⟩
   case relC=>simp
   case relD=>
    have key:Lib.byteCells (hexK l (i+1))=L1++[.int .u8 ((hexA[(x % 16).toNat]'(by rw [hexA_size];omega)).toNat:Nat)]:=by
     rw [hsuc,<- hL1,Lib.byteCells_append]
     unfold hex2
     rw [hex_at (show (x / 16).toNat < 16 by omega),hex_at (show (x % 16).toNat < 16 by omega),List.append_assoc];rfl
    rw [key]
    exact Or.inr h2
   case meaS=>simp [intOf];omega
  ·obtain rfl:i=n:=by omega
   go_wp2_with (go_at_call 92;refine (Tryz.Builder_String_any_k w.heap.size w.heap.size acc _ hI (by omega)).mono ?_)
   rintro e W1 ⟨rfl,_,b1,_⟩
   go_wp2
   go_ret
   unfold hexB
   rw [hlen,hacc]
   exact ⟨rfl,hb.trans b1⟩
def F_conf_Hex_sig:Sig:=⟨[.v false [.d (.sl (.int .u8))]],[(false,[.d .str])]⟩
def F_conf_Hex (l:List Int):Option (List Int):=cond (Nat.ble l.length 1099511627776) (some ((hexB l).map byteI)) none
theorem ent_hex (l:List Int):(entrySt F_conf_Hex_sig [⟨.sl (.int .u8),l⟩]).map (fun st=>st.φ 0)=some (.w false [.d (.sl (.int .u8)) l]):=rfl
theorem exit_hex (y:List Int):∃ st',exitSt F_conf_Hex_sig y=some st' /\ st'.φ 0=.w false [.d .str y] /\ (∀ i,st'.φ (i+1)=.dead) /\ (∀ k,st'.L k=none) /\ (∀ k,st'.O k=true->k=.zero) /\ st'.kn=[] /\ st'.fr=[]:=
 ⟨_,rfl,rfl,fun _=>rfl,fun k=>by match k with | 0=>rfl | _+1=>rfl,fun k hk=>by
  have hk:hasT [.zero] k=true:=hk
  simpa using hasT_iff.1 hk,rfl,rfl⟩
theorem F_conf_Hex_sound {T:Tab}:SoundFn Tryz.prog T 69 F_conf_Hex_sig ⟨F_conf_Hex⟩:=by
 intro F g st xs y tmf w args _ hent happ hrel hw hn hsz htm
 obtain ⟨(l:List Int),xs',rfl,h2⟩:=appF_inv_c (ts:=[]) happ
 obtain ⟨rfl,h3⟩:=appF_inv_n h2
 have hφ:Option.map (fun st:PSt=>st.φ 0) (some st)=_:=(congrArg _ hent).symm.trans (ent_hex l)
 have hφ:some (st.φ 0)=some _:=hφ
 injection hφ with hφ
 have h0:=hrel.slots 0
 rw [hφ,htm 0] at h0
 obtain ⟨a,n,c,e0,e1,e2,e3,e4,e5⟩:=rel_bytes h0
 have ha:args = #[.slice a n c]:=by
  obtain ⟨al⟩:=args
  match al,hsz with
  | [v],_=>
   have:v=.slice a n c:=e0
   rw [this]
 subst ha
 have h3:cond (Nat.ble l.length 1099511627776) (some ((hexB l).map byteI)) none=some y:=h3
 cases hb:Nat.ble l.length 1099511627776 with
 | false=>rw [hb] at h3;cases h3
 | true=>
  rw [hb] at h3
  have hy:(hexB l).map byteI=y:=by injection h3
  have hle:l.length<=1099511627776:=Nat.le_of_ble_eq_true hb
  obtain ⟨st',x1,x2,x3,x4,x5,x6,x7⟩:=exit_hex y
  refine (hex_walk l e4 a n c e1 (by rw [<-e1];exact hle) w e5).mono fun e w' ⟨he,hbel⟩=>⟨[.string ⟨(hexB l).toArray⟩],_,st',he,rfl,x1,mrel_out (t:=.str) (x:=y) hrel hbel ⟨_,rfl,?_,?_⟩ x2 x3 x4 x5 x6 x7,fun k hk=>?_⟩
  ·rw [<-hy]
   show (hexB l).toArray.toList.map byteI=_
   rw [List.toList_toArray]
  ·show (hexB l).toArray.size<=maxLen
   rw [List.size_toArray]
   unfold hexB
   rw [hexK_len]
   unfold maxLen
   omega
  ·cases k with
   | zero=>cases hk
   | succ k=>cases k <;> cases hk
end Go.Proofs.YtgfmfgombmpodaaGreatDoor
namespace Go.Proofs.YtgfmfgombmpodaaGreatDoor
open Go.RowKit Go.Shelf Go.Lib Pv
set_option linter.unusedVariables false
def insZ (l:List Int) (g:Nat):List Int:=l.take g++List.replicate (16 - l.length) 0++l.drop g
theorem insZ_len {l:List Int} {g:Nat} (hg:g<=l.length) (hn:l.length < 16):(insZ l g).length=16:=by
 unfold insZ
 simp only [List.length_append,List.length_take,List.length_replicate,List.length_drop]
 omega
def bv (l:List Int):List Value:=l.map (Value.int .u8)
theorem bv_len (l:List Int):(bv l).length=l.length:=by unfold bv;rw [List.length_map]
def zs (m:Nat):List Value:=bv (List.replicate m 0)
def insOk (l:List Int) (g:Int):Bool:=decide (0<=g)&&decide (g<=(l.length:Int))&&Nat.blt l.length 16
end Go.Proofs.YtgfmfgombmpodaaGreatDoor
namespace Go.Proofs.YtgfmfgombmpodaaGreatDoor
open Pv Go.RowKit
set_option linter.unusedVariables false
def idxI:List Int->Int->Int
 | [],_=>-1
 | x::r,c=>cond (x==c) 0 (cond (idxI r c == -1) (-1) (idxI r c+1))
def F_internal_stringslite_Index (s t:List Int):Option Int:=match t with
 | [c]=>some (idxI s c)
 | _=>none
end Go.Proofs.YtgfmfgombmpodaaGreatDoor
namespace Go.Proofs.YtgfmfgombmpodaaGreatDoor
open Pv
set_option linter.unusedVariables false
noncomputable def F_conf_number (s1:List Int) (i2:Int) (i3:Int):Option (Int×Bool):=
 (F_strconv_Atoi s1).bind fun x4=>
 cond (notB x4.2)
 ((F_strconv_Itoa x4.1).bind fun s5=>
 some (x4.1,(((s5==s1)&&(decide (x4.1 >= i2)))&&(decide (x4.1<=i3)))))
 (some (x4.1,false))
noncomputable def F_conf_bytesOf_L4 (s1:List Int) (s:List Int×Int):Option (((List Int×Bool)⊕(List Int))⊕(List Int×Int)):=
 let l4:=s.1;let i5:=s.2
 cond (decide ((IntKind.i64.wrap (i5+1)) < (s1.length:Int)))
 ((cutI s1 i5 (IntKind.i64.wrap (i5+2))).bind fun s6=>
 (F_strconv_ParseUint s6 16 8).bind fun x7=>
 cond x7.2
 (some (.inl (.inl (([]:List Int),false))))
 (chk (decide ((l4.length+([(IntKind.u8.wrap x7.1)]:List Int).length)*1<=140737488355328)&&decide (l4.length+([(IntKind.u8.wrap x7.1)]:List Int).length<=maxLen))
 (some (.inr ((l4++([(IntKind.u8.wrap x7.1)]:List Int)),(IntKind.i64.wrap (i5+2)))))))
 (some (.inl (.inr l4)))
noncomputable def F_conf_bytesOf_J2 (s1:List Int) (i2:Int) (i3:Int) (s:List Int):Option (List Int×Bool):=
 let l8:=s
 (F_conf_Hex l8).bind fun s9=>
 some (l8,(((s9==s1)&&(decide ((l8.length:Int) >= i2)))&&(decide ((l8.length:Int)<=i3))))
noncomputable def F_conf_bytesOf (s1:List Int) (i2:Int) (i3:Int):Option (List Int×Bool):=
 joinC (S:=List Int) (R:=List Int×Bool)
 (loopC (S:=List Int×Int) (R:=(List Int×Bool)⊕(List Int)) (F_conf_bytesOf_L4 s1) (([]:List Int),0))
 (F_conf_bytesOf_J2 s1 i2 i3)
noncomputable def F_internal_stringslite_HasPrefix (s1:List Int) (s2:List Int):Option (Bool):=
 cond (decide ((s1.length:Int) >= (s2.length:Int)))
 ((cutI s1 0 (s2.length:Int)).bind fun s3=>
 some (s3==s2))
 (some false)
noncomputable def F_internal_stringslite_CutPrefix (s1:List Int) (s2:List Int):Option (List Int×Bool):=
 (F_internal_stringslite_HasPrefix s1 s2).bind fun b3=>
 cond (!b3)
 (some (s1,false))
 ((cutI s1 (s2.length:Int) (s1.length:Int)).bind fun s4=>
 some (s4,true))
noncomputable def F_strings_CutPrefix (s1:List Int) (s2:List Int):Option (List Int×Bool):=
 (F_internal_stringslite_CutPrefix s1 s2).bind fun x3=>
 some (x3.1,x3.2)
noncomputable def F_host_sign (i1:Int):Option (Int):=
 cond ((decide (i1 >= 65))&&(decide (i1<=90)))
 (some (IntKind.u8.wrap ((IntKind.u8.wrap (i1+97)) - 65)))
 (cond ((decide (i1 >= 97))&&(decide (i1<=122)))
 (cond ((decide (i1 >= 97))&&(decide (i1<=122)))
 (some i1)
 (some 0))
 (cond ((decide (i1 >= 48))&&(decide (i1<=57)))
 (cond ((decide (i1 >= 48))&&(decide (i1<=57)))
 (some i1)
 (some 0))
 (cond (i1==45)
 (cond (i1==45)
 (some i1)
 (some 0))
 (cond (i1==95)
 (some i1)
 (some 0)))))
noncomputable def F_host_Name_G1_2 (s1:List Int) (s:List Int×Int×Int):Option ((List Int×Int)⊕(Nat×List Int×Int×Int)):=
 let l5:=s.1;let i6:=s.2.1;let i7:=s.2.2
 cond (i6==(s1.length:Int))
 (some (.inr (1,(l5,i6,i7))))
 ((getI s1 i6).bind fun i8=>
 cond (i8==46)
 (some (.inr (1,(l5,i6,i7))))
 ((getI s1 i6).bind fun i9=>
 (F_host_sign i9).bind fun i10=>
 cond ((i10==0)||(i7==63))
 (some (.inr (0,(l5,i6,i7))))
 (cond ((i10==45)&&(i7==0))
 (some (.inr (0,(l5,i6,i7))))
 (chk (decide ((l5.length+([i10]:List Int).length)*1<=140737488355328)&&decide (l5.length+([i10]:List Int).length<=maxLen))
 (some (.inr (2,((l5++([i10]:List Int)),(IntKind.i64.wrap (i6+1)),(IntKind.i64.wrap (i7+1))))))))))
noncomputable def F_host_Name_G1_1 (s1:List Int) (s:List Int×Int×Int):Option ((List Int×Int)⊕(Nat×List Int×Int×Int)):=
 let l5:=s.1;let i6:=s.2.1;let i7:=s.2.2
 cond (i7==0)
 (some (.inr (0,(l5,i6,i7))))
 ((getI l5 (IntKind.i64.wrap ((l5.length:Int) - 1))).bind fun i11=>
 cond (i11==45)
 (some (.inr (0,(l5,i6,i7))))
 (cond (i6==(s1.length:Int))
 (some (.inl (l5,0)))
 (chk (decide ((l5.length+([46]:List Int).length)*1<=140737488355328)&&decide (l5.length+([46]:List Int).length<=maxLen))
 (some (.inr (2,((l5++([46]:List Int)),(IntKind.i64.wrap (i6+1)),0)))))))
noncomputable def F_host_Name_G1_0 (s:List Int×Int×Int):Option ((List Int×Int)⊕(Nat×List Int×Int×Int)):=
 let l5:=s.1;let i6:=s.2.1;let i7:=s.2.2
 some (.inl (([]:List Int),2))
noncomputable def F_host_Name_G1 (s1:List Int) (p:Nat×List Int×Int×Int):Option ((List Int×Int)⊕(Nat×List Int×Int×Int)):=
 cond (hasN [2] p.1) (F_host_Name_G1_2 s1 p.2) (cond (hasN [1] p.1) (F_host_Name_G1_1 s1 p.2) (cond (hasN [0] p.1) (F_host_Name_G1_0 p.2) (none)))
noncomputable def F_host_Name (s1:List Int):Option (List Int×Int):=
 joinC (S:=Nat×List Int×Int×Int) (R:=List Int×Int)
 (cond (decide ((s1.length:Int) > 253))
 (some (.inr (0,(([]:List Int),0,0))))
 (cond (0==(s1.length:Int))
 (some (.inr (1,(([]:List Int),0,0))))
 ((getI s1 0).bind fun i2=>
 cond (i2==46)
 (some (.inr (1,(([]:List Int),0,0))))
 ((getI s1 0).bind fun i3=>
 (F_host_sign i3).bind fun i4=>
 cond ((i4==0)||false)
 (some (.inr (0,(([]:List Int),0,0))))
 (cond ((i4==45)&&true)
 (some (.inr (0,(([]:List Int),0,0))))
 (chk (decide ((([]:List Int).length+([i4]:List Int).length)*1<=140737488355328)&&decide (([]:List Int).length+([i4]:List Int).length<=maxLen))
 (some (.inr (2,((([]:List Int)++([i4]:List Int)),(IntKind.i64.wrap (0+1)),(IntKind.i64.wrap (0+1))))))))))))
 (fun p=>loopC (S:=Nat×List Int×Int×Int) (R:=List Int×Int) (F_host_Name_G1 s1) p)
noncomputable def F_addr_kept_L4 (s1:List Int) (i2:Int) (s:Int×List Int):Option (((List Int)⊕(List Int))⊕(Int×List Int)):=
 let i3:=s.1;let l4:=s.2
 cond (decide (i3 < (s1.length:Int)))
 (chk (decide (0<=i3)&&decide (i3 < (s1.length:Int)))
 ((getI l4 i3).bind fun i5=>
 chk (decide (0<=(minI (maxI (IntKind.i64.wrap (i2 - (IntKind.i64.wrap (8*i3)))) 0) 8)))
 (chk (decide (0<=i3)&&decide (i3 < (s1.length:Int)))
 (chk (decide (i3 < (l4.length:Int)))
 (some (.inr ((IntKind.i64.wrap (i3+1)),(l4.set (i3).toNat (bits .and .u8 i5 (IntKind.u8.wrap (Int.fdiv 65280 (2 ^ (min ((minI (maxI (IntKind.i64.wrap (i2 - (IntKind.i64.wrap (8*i3)))) 0) 8)).toNat 64)))))))))))))
 (some (.inl (.inr l4)))
noncomputable def F_addr_kept_J2 (s1:List Int) (s:List Int):Option (List Int):=
 let l6:=s
 chk (Nat.ble s1.length (List.length l6))
 (some (List.take s1.length l6))
noncomputable def F_addr_kept (s1:List Int) (i2:Int):Option (List Int):=
 joinC (S:=List Int) (R:=List Int)
 (loopC (S:=Int×List Int) (R:=(List Int)⊕(List Int)) (F_addr_kept_L4 s1 i2) (0,s1))
 (F_addr_kept_J2 s1)
noncomputable def F_internal_stringslite_Cut (s1:List Int) (s2:List Int):Option (List Int×List Int×Bool):=
 (F_internal_stringslite_Index s1 s2).bind fun i3=>
 cond (decide (i3 >= 0))
 ((cutI s1 0 i3).bind fun s4=>
 (cutI s1 (IntKind.i64.wrap (i3+(s2.length:Int))) (s1.length:Int)).bind fun s5=>
 some (s4,s5,true))
 (some (s1,([]:List Int),false))
noncomputable def F_strings_Cut (s1:List Int) (s2:List Int):Option (List Int×List Int×Bool):=
 (F_internal_stringslite_Cut s1 s2).bind fun x3=>
 some (x3.1,x3.2.1,x3.2.2)
noncomputable def F_addr_decimal (s1:List Int) (i2:Int):Option (Int×Bool):=
 (F_strconv_Atoi s1).bind fun x3=>
 cond (((notB x3.2)&&(decide (x3.1 >= 0)))&&(decide (x3.1<=i2)))
 ((F_strconv_Itoa x3.1).bind fun s4=>
 some (x3.1,(s4==s1)))
 (some (x3.1,false))
noncomputable def F_addr_dotted_L8 (l2:List (List Int)) (s:List Int×List (List Int)×Int):Option (((List Int×Bool)⊕(List Int))⊕(List Int×List (List Int)×Int)):=
 let l3:=s.1;let l4:=s.2.1;let i5:=s.2.2
 cond (decide (i5 < (l2.length:Int)))
 ((getI l4 i5).bind fun s6=>
 (F_addr_decimal s6 255).bind fun x7=>
 cond (!x7.2)
 (some (.inl (.inl (([]:List Int),false))))
 (chk (decide ((l3.length+([(IntKind.u8.wrap x7.1)]:List Int).length)*1<=140737488355328)&&decide (l3.length+([(IntKind.u8.wrap x7.1)]:List Int).length<=maxLen))
 (some (.inr ((l3++([(IntKind.u8.wrap x7.1)]:List Int)),l4,(IntKind.i64.wrap (i5+1)))))))
 (some (.inl (.inr l3)))
noncomputable def F_addr_dotted_J6 (s:List Int):Option (List Int×Bool):=
 let l8:=s
 some (l8,true)
noncomputable def F_addr_dotted (s1:List Int):Option (List Int×Bool):=
 (F_strings_Split s1 ([46]:List Int)).bind fun l2=>
 cond ((l2.length:Int) != 4)
 (some (([]:List Int),false))
 (joinC (S:=List Int) (R:=List Int×Bool)
 (loopC (S:=List Int×List (List Int)×Int) (R:=(List Int×Bool)⊕(List Int)) (F_addr_dotted_L8 l2) (([]:List Int),l2,0))
 (F_addr_dotted_J6))
noncomputable def F_strings_HasPrefix (s1:List Int) (s2:List Int):Option (Bool):=
 (F_internal_stringslite_HasPrefix s1 s2).bind fun b3=>
 some b3
noncomputable def F_addr_digit (i1:Int):Option (Int):=
 cond ((decide (i1 >= 48))&&(decide (i1<=57)))
 (some (IntKind.i64.wrap (IntKind.u8.wrap (i1 - 48))))
 (cond ((decide (i1 >= 97))&&(decide (i1<=102)))
 (some (IntKind.i64.wrap ((IntKind.i64.wrap (IntKind.u8.wrap (i1 - 97)))+10)))
 (cond ((decide (i1 >= 65))&&(decide (i1<=70)))
 (some (IntKind.i64.wrap ((IntKind.i64.wrap (IntKind.u8.wrap (i1 - 65)))+10)))
 (some (-1))))
noncomputable def F_addr_coloned_G1_1 (s1:List Int) (s:List Int×Int×Int×Int×Int):Option ((List Int×Bool)⊕(Nat×List Int×Int×Int×Int×Int)):=
 let l11:=s.1;let i12:=s.2.1;let i13:=s.2.2.1;let i14:=s.2.2.2.1;let i15:=s.2.2.2.2
 cond (decide (i13 < (s1.length:Int)))
 ((getI s1 i13).bind fun i16=>
 (F_addr_digit i16).bind fun i17=>
 cond ((decide (i17 >= 0))&&(decide ((0:Int) < 4)))
 ((getI s1 i13).bind fun i18=>
 (F_addr_digit i18).bind fun i19=>
 some (.inr (2,(l11,i12,(IntKind.i64.wrap (i13+1)),(bits .or .i64 (IntKind.i64.wrap (0*2 ^ 4)) i19),(IntKind.i64.wrap (0+1))))))
 (some (.inl (([]:List Int),false))))
 (some (.inl (([]:List Int),false)))
noncomputable def F_addr_coloned_G1_2 (s1:List Int) (s:List Int×Int×Int×Int×Int):Option ((List Int×Bool)⊕(Nat×List Int×Int×Int×Int×Int)):=
 let l11:=s.1;let i12:=s.2.1;let i13:=s.2.2.1;let i14:=s.2.2.2.1;let i15:=s.2.2.2.2
 cond (decide (i13 < (s1.length:Int)))
 ((getI s1 i13).bind fun i20=>
 (F_addr_digit i20).bind fun i21=>
 cond ((decide (i21 >= 0))&&(decide (i15 < 4)))
 ((getI s1 i13).bind fun i22=>
 (F_addr_digit i22).bind fun i23=>
 some (.inr (2,(l11,i12,(IntKind.i64.wrap (i13+1)),(bits .or .i64 (IntKind.i64.wrap (i14*2 ^ 4)) i23),(IntKind.i64.wrap (i15+1))))))
 (cond (i15==0)
 (some (.inl (([]:List Int),false)))
 (chk (decide ((l11.length+([(IntKind.u8.wrap (Int.fdiv i14 (2 ^ 8))),(IntKind.u8.wrap i14)]:List Int).length)*1<=140737488355328)&&decide (l11.length+([(IntKind.u8.wrap (Int.fdiv i14 (2 ^ 8))),(IntKind.u8.wrap i14)]:List Int).length<=maxLen))
 (cond (i13==(s1.length:Int))
 (some (.inr (0,((l11++([(IntKind.u8.wrap (Int.fdiv i14 (2 ^ 8))),(IntKind.u8.wrap i14)]:List Int)),i12,i13,i14,i15))))
 ((getI s1 i13).bind fun i24=>
 cond ((i24 != 58)||(((l11++([(IntKind.u8.wrap (Int.fdiv i14 (2 ^ 8))),(IntKind.u8.wrap i14)]:List Int)).length:Int)==16))
 (some (.inl (([]:List Int),false)))
 (cond ((IntKind.i64.wrap (i13+1))==(s1.length:Int))
 (some (.inr (1,((l11++([(IntKind.u8.wrap (Int.fdiv i14 (2 ^ 8))),(IntKind.u8.wrap i14)]:List Int)),i12,(IntKind.i64.wrap (i13+1)),i14,i15))))
 ((getI s1 (IntKind.i64.wrap (i13+1))).bind fun i25=>
 cond (i25 != 58)
 (some (.inr (1,((l11++([(IntKind.u8.wrap (Int.fdiv i14 (2 ^ 8))),(IntKind.u8.wrap i14)]:List Int)),i12,(IntKind.i64.wrap (i13+1)),i14,i15))))
 (cond (decide (i12 >= 0))
 (some (.inl (([]:List Int),false)))
 (cond (decide ((IntKind.i64.wrap ((IntKind.i64.wrap (i13+1))+1)) < (s1.length:Int)))
 (some (.inr (1,((l11++([(IntKind.u8.wrap (Int.fdiv i14 (2 ^ 8))),(IntKind.u8.wrap i14)]:List Int)),((l11++([(IntKind.u8.wrap (Int.fdiv i14 (2 ^ 8))),(IntKind.u8.wrap i14)]:List Int)).length:Int),(IntKind.i64.wrap ((IntKind.i64.wrap (i13+1))+1)),i14,i15))))
 (cond (decide (((l11++([(IntKind.u8.wrap (Int.fdiv i14 (2 ^ 8))),(IntKind.u8.wrap i14)]:List Int)).length:Int) < 0))
 (some (.inl ((l11++([(IntKind.u8.wrap (Int.fdiv i14 (2 ^ 8))),(IntKind.u8.wrap i14)]:List Int)),(((l11++([(IntKind.u8.wrap (Int.fdiv i14 (2 ^ 8))),(IntKind.u8.wrap i14)]:List Int)).length:Int)==16))))
 (cond (decide (((l11++([(IntKind.u8.wrap (Int.fdiv i14 (2 ^ 8))),(IntKind.u8.wrap i14)]:List Int)).length:Int) >= 16))
 (some (.inl (([]:List Int),false)))
 (chk (insOk (l11++([(IntKind.u8.wrap (Int.fdiv i14 (2 ^ 8))),(IntKind.u8.wrap i14)]:List Int)) ((l11++([(IntKind.u8.wrap (Int.fdiv i14 (2 ^ 8))),(IntKind.u8.wrap i14)]:List Int)).length:Int))
 (some (.inl ((insZ (l11++([(IntKind.u8.wrap (Int.fdiv i14 (2 ^ 8))),(IntKind.u8.wrap i14)]:List Int)) ((l11++([(IntKind.u8.wrap (Int.fdiv i14 (2 ^ 8))),(IntKind.u8.wrap i14)]:List Int)).length:Int).toNat),true)))))))))))))))
 (cond (i15==0)
 (some (.inl (([]:List Int),false)))
 (chk (decide ((l11.length+([(IntKind.u8.wrap (Int.fdiv i14 (2 ^ 8))),(IntKind.u8.wrap i14)]:List Int).length)*1<=140737488355328)&&decide (l11.length+([(IntKind.u8.wrap (Int.fdiv i14 (2 ^ 8))),(IntKind.u8.wrap i14)]:List Int).length<=maxLen))
 (cond (i13==(s1.length:Int))
 (some (.inr (0,((l11++([(IntKind.u8.wrap (Int.fdiv i14 (2 ^ 8))),(IntKind.u8.wrap i14)]:List Int)),i12,i13,i14,i15))))
 ((getI s1 i13).bind fun i26=>
 cond ((i26 != 58)||(((l11++([(IntKind.u8.wrap (Int.fdiv i14 (2 ^ 8))),(IntKind.u8.wrap i14)]:List Int)).length:Int)==16))
 (some (.inl (([]:List Int),false)))
 (cond ((IntKind.i64.wrap (i13+1))==(s1.length:Int))
 (some (.inr (1,((l11++([(IntKind.u8.wrap (Int.fdiv i14 (2 ^ 8))),(IntKind.u8.wrap i14)]:List Int)),i12,(IntKind.i64.wrap (i13+1)),i14,i15))))
 ((getI s1 (IntKind.i64.wrap (i13+1))).bind fun i27=>
 cond (i27 != 58)
 (some (.inr (1,((l11++([(IntKind.u8.wrap (Int.fdiv i14 (2 ^ 8))),(IntKind.u8.wrap i14)]:List Int)),i12,(IntKind.i64.wrap (i13+1)),i14,i15))))
 (cond (decide (i12 >= 0))
 (some (.inl (([]:List Int),false)))
 (cond (decide ((IntKind.i64.wrap ((IntKind.i64.wrap (i13+1))+1)) < (s1.length:Int)))
 (some (.inr (1,((l11++([(IntKind.u8.wrap (Int.fdiv i14 (2 ^ 8))),(IntKind.u8.wrap i14)]:List Int)),((l11++([(IntKind.u8.wrap (Int.fdiv i14 (2 ^ 8))),(IntKind.u8.wrap i14)]:List Int)).length:Int),(IntKind.i64.wrap ((IntKind.i64.wrap (i13+1))+1)),i14,i15))))
 (cond (decide (((l11++([(IntKind.u8.wrap (Int.fdiv i14 (2 ^ 8))),(IntKind.u8.wrap i14)]:List Int)).length:Int) < 0))
 (some (.inl ((l11++([(IntKind.u8.wrap (Int.fdiv i14 (2 ^ 8))),(IntKind.u8.wrap i14)]:List Int)),(((l11++([(IntKind.u8.wrap (Int.fdiv i14 (2 ^ 8))),(IntKind.u8.wrap i14)]:List Int)).length:Int)==16))))
 (cond (decide (((l11++([(IntKind.u8.wrap (Int.fdiv i14 (2 ^ 8))),(IntKind.u8.wrap i14)]:List Int)).length:Int) >= 16))
 (some (.inl (([]:List Int),false)))
 (chk (insOk (l11++([(IntKind.u8.wrap (Int.fdiv i14 (2 ^ 8))),(IntKind.u8.wrap i14)]:List Int)) ((l11++([(IntKind.u8.wrap (Int.fdiv i14 (2 ^ 8))),(IntKind.u8.wrap i14)]:List Int)).length:Int))
 (some (.inl ((insZ (l11++([(IntKind.u8.wrap (Int.fdiv i14 (2 ^ 8))),(IntKind.u8.wrap i14)]:List Int)) ((l11++([(IntKind.u8.wrap (Int.fdiv i14 (2 ^ 8))),(IntKind.u8.wrap i14)]:List Int)).length:Int).toNat),true))))))))))))))
noncomputable def F_addr_coloned_G1_0 (s:List Int×Int×Int×Int×Int):Option ((List Int×Bool)⊕(Nat×List Int×Int×Int×Int×Int)):=
 let l11:=s.1;let i12:=s.2.1;let i13:=s.2.2.1;let i14:=s.2.2.2.1;let i15:=s.2.2.2.2
 cond (decide (i12 < 0))
 (some (.inl (l11,((l11.length:Int)==16))))
 (cond (decide ((l11.length:Int) >= 16))
 (some (.inl (([]:List Int),false)))
 (chk (insOk l11 i12)
 (some (.inl ((insZ l11 i12.toNat),true)))))
noncomputable def F_addr_coloned_G1 (s1:List Int) (p:Nat×List Int×Int×Int×Int×Int):Option ((List Int×Bool)⊕(Nat×List Int×Int×Int×Int×Int)):=
 cond (hasN [1] p.1) (F_addr_coloned_G1_1 s1 p.2) (cond (hasN [2] p.1) (F_addr_coloned_G1_2 s1 p.2) (cond (hasN [0] p.1) (F_addr_coloned_G1_0 p.2) (none)))
noncomputable def F_addr_coloned (s1:List Int):Option (List Int×Bool):=
 joinC (S:=Nat×List Int×Int×Int×Int×Int) (R:=List Int×Bool)
 ((F_strings_HasPrefix s1 ([58,58]:List Int)).bind fun b2=>
 cond b2
 (cond (2==(s1.length:Int))
 (some (.inr (0,(([]:List Int),0,2,0,0))))
 (cond (decide ((2:Int) < (s1.length:Int)))
 ((getI s1 2).bind fun i3=>
 (F_addr_digit i3).bind fun i4=>
 cond ((decide (i4 >= 0))&&(decide ((0:Int) < 4)))
 ((getI s1 2).bind fun i5=>
 (F_addr_digit i5).bind fun i6=>
 some (.inr (2,(([]:List Int),0,(IntKind.i64.wrap (2+1)),(bits .or .i64 (IntKind.i64.wrap (0*2 ^ 4)) i6),(IntKind.i64.wrap (0+1))))))
 (some (.inl (([]:List Int),false))))
 (some (.inl (([]:List Int),false)))))
 (cond (decide ((0:Int) < (s1.length:Int)))
 ((getI s1 0).bind fun i7=>
 (F_addr_digit i7).bind fun i8=>
 cond ((decide (i8 >= 0))&&(decide ((0:Int) < 4)))
 ((getI s1 0).bind fun i9=>
 (F_addr_digit i9).bind fun i10=>
 some (.inr (2,(([]:List Int),(-1),(IntKind.i64.wrap (0+1)),(bits .or .i64 (IntKind.i64.wrap (0*2 ^ 4)) i10),(IntKind.i64.wrap (0+1))))))
 (some (.inl (([]:List Int),false))))
 (some (.inl (([]:List Int),false)))))
 (fun p=>loopC (S:=Nat×List Int×Int×Int×Int×Int) (R:=List Int×Bool) (F_addr_coloned_G1 s1) p)
noncomputable def F_internal_stringslite_TrimPrefix (s1:List Int) (s2:List Int):Option (List Int):=
 (F_internal_stringslite_HasPrefix s1 s2).bind fun b3=>
 cond b3
 ((cutI s1 (s2.length:Int) (s1.length:Int)).bind fun s4=>
 some s4)
 (some s1)
noncomputable def F_strings_TrimPrefix (s1:List Int) (s2:List Int):Option (List Int):=
 (F_internal_stringslite_TrimPrefix s1 s2).bind fun s3=>
 some s3
noncomputable def F_addr_Plain (s1:List Int):Option (List Int):=
 (F_strings_TrimPrefix s1 ([0,0,0,0,0,0,0,0,0,0,255,255]:List Int)).bind fun s2=>
 some s2
noncomputable def F_addr_Parse (s1:List Int):Option (List Int×Int):=
 (F_addr_dotted s1).bind fun x2=>
 cond (!x2.2)
 ((F_addr_coloned s1).bind fun x3=>
 (F_addr_Plain x3.1).bind fun s4=>
 cond (!x3.2)
 (some (([]:List Int),2))
 (some (s4,0)))
 (cond (!x2.2)
 (some (([]:List Int),2))
 (some (x2.1,0)))
noncomputable def F_addr_ParseNet (s1:List Int):Option (List Int×Int×Int):=
 (F_strings_Cut s1 ([47]:List Int)).bind fun x2=>
 (F_addr_Parse x2.1).bind fun x3=>
 cond (x3.2 != 0)
 (some (([]:List Int),0,x3.2))
 (cond x2.2.2
 ((F_addr_decimal x2.2.1 (IntKind.i64.wrap (8*(x3.1.length:Int)))).bind fun x4=>
 cond (!x4.2)
 (some (([]:List Int),0,2))
 ((F_addr_kept x3.1 x4.1).bind fun s5=>
 cond (!(s5==x3.1))
 (some (([]:List Int),0,2))
 (some (x3.1,x4.1,0))))
 (some (x3.1,(IntKind.i64.wrap (8*(x3.1.length:Int))),0)))
noncomputable def F_conf_pattern (s1:List Int):Option (Bool×Int×List Int×List Int×Int×Int×Int×Bool):=
 cond (s1==([42]:List Int))
 (some (false,0,([]:List Int),([]:List Int),0,0,0,true))
 ((F_strings_CutPrefix s1 ([46]:List Int)).bind fun x2=>
 cond x2.2
 ((F_host_Name x2.1).bind fun x3=>
 cond (x3.2==0)
 (chk (Nat.ble (([46]:List Int).length+x3.1.length) maxLen)
 (some (false,2,(([46]:List Int)++x3.1),([]:List Int),0,0,0,true)))
 ((F_addr_ParseNet s1).bind fun x4=>
 cond (x4.2.2==0)
 (some (false,3,([]:List Int),x4.1,x4.2.1,0,0,true))
 ((F_host_Name s1).bind fun x5=>
 some (false,1,x5.1,([]:List Int),0,0,0,(x5.2==0)))))
 ((F_addr_ParseNet s1).bind fun x6=>
 cond (x6.2.2==0)
 (some (false,3,([]:List Int),x6.1,x6.2.1,0,0,true))
 ((F_host_Name s1).bind fun x7=>
 some (false,1,x7.1,([]:List Int),0,0,0,(x7.2==0)))))
noncomputable def F_conf_span (s1:List Int):Option (Int×Int×Bool):=
 cond (s1==([42]:List Int))
 (some (1,65535,true))
 ((F_strings_Cut s1 ([45]:List Int)).bind fun x2=>
 cond (!x2.2.2)
 ((F_conf_number x2.1 1 65535).bind fun x3=>
 (F_conf_number x2.1 1 65535).bind fun x4=>
 some (x3.1,x4.1,((x3.2&&x4.2)&&(decide (x3.1<=x4.1)))))
 ((F_conf_number x2.1 1 65535).bind fun x5=>
 (F_conf_number x2.2.1 1 65535).bind fun x6=>
 some (x5.1,x6.1,((x5.2&&x6.2)&&(decide (x5.1<=x6.1))))))
end Go.Proofs.YtgfmfgombmpodaaGreatDoor
namespace Go.Proofs.YtgfmfgombmpodaaGreatDoor
open Go.RowKit Go.Shelf Go.Lib Pv
set_option linter.unusedVariables false
end Go.Proofs.YtgfmfgombmpodaaGreatDoor
namespace Go.Proofs.YtgfmfgombmpodaaGreatDoor
open Pv
end Go.Proofs.YtgfmfgombmpodaaGreatDoor
namespace Go.Proofs.YtgfmfgombmpodaaGreatDoor
open Go.RowKit Pv
set_option linter.unusedVariables false
abbrev TabAt (T:Tab) (w:World):Prop:=∀ p∈T,∃ ty fr,w.heap[p.1]? = some (.cells p.2 ty fr)
theorem TabAt.below {T:Tab} {w w':World} (h:TabAt T w) (hb:Below w.heap.size w w'):TabAt T w':=fun p hp=>by
 obtain ⟨ty,fr,h1⟩:=h p hp
 exact ⟨ty,fr,(hb.block p.1 (Array.getElem?_eq_some_iff.1 h1).1).trans h1⟩
structure Facts (T:Tab):Prop where
 pow10:tab_pow10∈T
 errs:has_errs T
 maxlen:has_maxlen T
theorem two_of {us:List Value} (h:us.length=2):us=[us.getD 0 undef,us.getD 1 undef]:=by
 match us,h with
 | [a,b],_=>rfl
theorem three_of {us:List Value} (h:us.length=3):us=[us.getD 0 undef,us.getD 1 undef,us.getD 2 undef]:=by
 match us,h with
 | [a,b,c],_=>rfl
theorem str_ok {W:World} {s:ByteArray} (h:s.size<=maxLen):(Arg.mk false (flat .str (bytesL s)) (.string s)).ok W:=Arg.mk_ok (τ:=.str) (cs:=[.string s]) (ag:=false) ⟨s,rfl,rfl,h⟩ rfl
theorem int_ok {W:World} {n:Int} (h:(Lit.int .i64 n).wf=true):(Arg.mk false (flat (.int .i64) n) (.int .i64 n)).ok W:=Arg.mk_ok (τ:=.int .i64) (cs:=[.int .i64 n]) (ag:=false) ⟨rfl,h⟩ rfl
def usAt:List UserD->List Int->Int
 | [],_=>-1
 | u::r,s=>cond (u.1==s) 0 (cond (decide (usAt r s = -1)) (-1) (usAt r s+1))
def okc (x:Int):Bool:=decide ((97<=x /\ x<=122) \/ (65<=x /\ x<=90) \/ (48<=x /\ x<=57) \/ x=46 \/ x=95 \/ x=45)
theorem bytes_nil (s:ByteArray):bytesL s=[]↔s.toList=[]:=by
 have h1:(bytesL s).length=s.size:=bytes_len s
 have h2:s.toList=s.data.toList:=toList_data s
 have h3:s.data.toList.length=s.size:=by simp
 constructor
 ·intro h
  rw [h2]
  exact List.eq_nil_of_length_eq_zero (by rw [h3,<- h1,h];rfl)
 ·intro h
  rw [h2] at h
  exact List.eq_nil_of_length_eq_zero (by rw [h1,<- h3,h];rfl)
def F_conf_named (l:List Int):Option Bool:=some (!(List.isEmpty l)&&Nat.ble l.length 64&&l.all okc)
end Go.Proofs.YtgfmfgombmpodaaGreatDoor
namespace Go.Proofs.YtgfmfgombmpodaaGreatDoor
namespace Vc
open Ieee
theorem log2_mul {m:Nat} (hm:m≠0) (k:Nat):(m*2 ^ k).log2=m.log2+k:=by
 have h:=(Nat.log2_eq_iff hm).1 rfl
 have hp:0 < 2 ^ k:=Nat.two_pow_pos k
 rw [Nat.log2_eq_iff (by have:=Nat.mul_pos (Nat.pos_of_ne_zero hm) hp;omega)]
 rw [Nat.pow_add,show m.log2+k+1=(m.log2+1)+k by omega,Nat.pow_add]
 exact ⟨Nat.mul_le_mul_right _ h.1,Nat.mul_lt_mul_of_pos_right h.2 hp⟩
theorem log2_lt {m:Nat} (h:m < 2 ^ 53):m.log2<=52:=by
 by_cases hm:m=0
 ·subst hm;decide
 ·have h1:=(Nat.log2_eq_iff hm).1 rfl
  rcases Nat.lt_or_ge 52 m.log2 with h2 | h2
  ·have:2 ^ 53<=2 ^ m.log2:=Nat.pow_le_pow_right (by decide) h2
   omega
  ·exact h2
theorem cut_exact (way:Toward) (neg:Bool) (q d:Nat) (hw:way=.even \/ way=.zero):way.cut neg (q*2 ^ d) d=q:=by
 by_cases hq:q=0
 ·subst hq
  have hg:0 < 1 <<< min d ((0*2 ^ d).log2+2):=by rw [Nat.shiftLeft_eq,Nat.one_mul];exact Nat.two_pow_pos _
  unfold Toward.cut
  simp only [Nat.zero_mul,Nat.zero_div,Nat.zero_mod] at hg ⊢
  rcases hw with rfl | rfl
  ·simp
  ·simp
 ·have hl:=log2_mul hq d
  unfold Toward.cut
  rw [hl,show min d (q.log2+d+2)=d by omega,Nat.shiftLeft_eq,Nat.one_mul]
  dsimp only
  rw [Nat.mul_div_cancel _ (Nat.two_pow_pos d),Nat.mul_mod_left]
  have:2 ^ d≠0:=Nat.ne_of_gt (Nat.two_pow_pos d)
  rcases hw with rfl | rfl
  ·simp
  ·simp
def fw (neg:Bool) (m:Nat):Nat:=if m=0 then double.word neg 0 else double.word neg ((m.log2+1022)*2 ^ 52+m*2 ^ (52 - m.log2))
theorem near (neg:Bool) {m:Nat} (h:m < 2 ^ 53) (k:Nat):double.nearest neg (m*2 ^ k) (-(k:Int))=fw neg m:=by
  have hL:=log2_lt h
  by_cases hm:m=0
  · subst hm;simp [Format.nearest,fw]
  · have hk:m*2 ^ k≠0:=by have:=Nat.mul_pos (Nat.pos_of_ne_zero hm) (Nat.two_pow_pos k);omega
    have hlog:=log2_mul hm k
    have hb:=(Nat.log2_eq_iff hm).1 rfl
    have hle:double.leastPlace = -1074:=by decide
    have hf:double.fractionBits=52:=rfl
    unfold Format.nearest fw
    rw [if_neg hk,if_neg hm,hlog,hle,hf]
    have hlast:max (-(k:Int)+((m.log2+k:Nat):Int) - ((52:Nat):Int)) (-1074)=(m.log2:Int) - 52:=by omega
    simp only [hlast]
    have hkept:Toward.even.cut neg ((m*2 ^ k) <<< (-(k:Int) - ((m.log2:Int) - 52)).toNat) ((m.log2:Int) - 52 - -(k:Int)).toNat=m*2 ^ (52 - m.log2):=by
      by_cases hc:k<=52 - m.log2
      · rw [show (-(k : Int) - ((m.log2 : Int) - 52)).toNat = 52 - m.log2 - k by omega, show ((m.log2 : Int) - 52 - -(k : Int)).toNat = 0 by omega, Nat.shiftLeft_eq, Nat.mul_assoc, <- Nat.pow_add,
          show k+(52 - m.log2 - k)=52 - m.log2 by omega]
        have:=cut_exact .even neg (m*2 ^ (52 - m.log2)) 0 (.inl rfl)
        rwa [Nat.pow_zero,Nat.mul_one] at this
      · rw [show (-(k:Int) - ((m.log2:Int) - 52)).toNat=0 by omega,show ((m.log2:Int) - 52 - -(k:Int)).toNat=k - (52 - m.log2) by omega,Nat.shiftLeft_eq,Nat.pow_zero,Nat.mul_one]
        have:=cut_exact .even neg (m*2 ^ (52 - m.log2)) (k - (52 - m.log2)) (.inl rfl)
        rwa [Nat.mul_assoc,<- Nat.pow_add,show 52 - m.log2+(k - (52 - m.log2))=k by omega] at this
    rw [hkept,show ((m.log2:Int) - 52 - -1074).toNat=m.log2+1022 by omega]
    have hbin:double.binade=2 ^ 52:=rfl
    have hinf:double.infRung=2047*2 ^ 52:=rfl
    rw [hbin,hinf]
    have hlt:m*2 ^ (52 - m.log2) < 2 ^ 53:=by
      have:=Nat.mul_lt_mul_of_pos_right hb.2 (Nat.two_pow_pos (52 - m.log2))
      rw [<-Nat.pow_add,show m.log2+1+(52 - m.log2)=53 by omega] at this
      exact this
    generalize m*2 ^ (52 - m.log2)=K at hlt ⊢
    rw [Nat.min_eq_left (by omega)]
def fl (n:Int):Nat:=FloatKind.f64.nearest n
theorem fl_fw {n:Int} (h:n.natAbs < 2 ^ 53):fl n=fw (decide (n < 0)) n.natAbs:=by
 have:=near (decide (n < 0)) h 0
 rw [Nat.pow_zero,Nat.mul_one] at this
 exact this
def Stands (d:Datum) (n:Int):Prop:=∃ k:Nat,d=.number (decide (n < 0)) (n.natAbs*2 ^ k) (-(k:Int))
theorem stands0:Stands (.number false 0 (-1074)) 0:=by
 refine ⟨1074,?_⟩
 generalize (2:Nat) ^ 1074=z
 rw [show Int.natAbs 0*z=0 from Nat.zero_mul z]
 rfl
theorem read_fl {n:Int} (h:n.natAbs < 2 ^ 53):Stands (double.read (fl n)) n:=by
 rw [fl_fw h]
 unfold fw
 by_cases hm:n.natAbs=0
 ·have:n=0:=by omega
  subst this
  have h2:double.read (double.word (decide ((0:Int) < 0)) 0)=.number false 0 (-1074):=by decide
  rw [if_pos hm,h2]
  exact stands0
 ·rw [if_neg hm]
  have hL:=log2_lt h
  have hb:=(Nat.log2_eq_iff hm).1 rfl
  have h1:2 ^ 52<=n.natAbs*2 ^ (52 - n.natAbs.log2):=by
   have:=Nat.mul_le_mul_right (2 ^ (52 - n.natAbs.log2)) hb.1
   rwa [<-Nat.pow_add,show n.natAbs.log2+(52 - n.natAbs.log2)=52 by omega] at this
  have h2:n.natAbs*2 ^ (52 - n.natAbs.log2) < 2 ^ 53:=by
   have:=Nat.mul_lt_mul_of_pos_right hb.2 (Nat.two_pow_pos (52 - n.natAbs.log2))
   rwa [<-Nat.pow_add,show n.natAbs.log2+1+(52 - n.natAbs.log2)=53 by omega] at this
  refine ⟨52 - n.natAbs.log2,?_⟩
  generalize hK:n.natAbs*2 ^ (52 - n.natAbs.log2)=K at h1 h2 ⊢
  generalize n.natAbs.log2=L at hL ⊢
  have hbin:double.binade=4503599627370496:=by decide
  have hinf:double.infRung=9218868437227405312:=by decide
  have hsw:double.signWeight=9223372036854775808:=by decide
  have hle:double.leastPlace = -1074:=by decide
  have w1:∀ neg:Bool,double.word neg ((L+1022)*2 ^ 52+K) / 9223372036854775808 % 2=neg.toNat /\ double.word neg ((L+1022)*2 ^ 52+K) % 9223372036854775808=(L+1022)*2 ^ 52+K:=fun neg=>by
   unfold Format.word
   rw [hsw]
   cases neg <;> simp <;> omega
  obtain ⟨a1,a2⟩:=w1 (decide (n < 0))
  unfold Format.read
  rw [hsw,hbin,hinf,hle,a1,a2]
  simp only
  rw [if_neg (by omega),if_pos (by omega)]
  congr 1
  ·cases decide (n < 0) <;> rfl
  ·omega
  ·omega
theorem signed_abs (n:Int) (k j:Nat):signed (decide (n < 0)) (n.natAbs*2 ^ k) j=n*2 ^ (k+j):=by
 unfold signed
 rw [Nat.shiftLeft_eq,Nat.mul_assoc,<- Nat.pow_add]
 by_cases h:n < 0
 ·simp only [h,decide_true,if_true]
  rw [Int.natCast_mul,Int.natCast_pow]
  have:(n.natAbs:Int) = -n:=by omega
  rw [this,Int.neg_mul,Int.neg_neg]
  rfl
 ·simp only [h,decide_false,Bool.false_eq_true,if_false]
  rw [Int.natCast_mul,Int.natCast_pow]
  have:(n.natAbs:Int)=n:=by omega
  rw [this]
  rfl
theorem base_eq (k l:Nat):min (-(k:Int)) (-(l:Int)) = -((max k l:Nat):Int):=by omega
theorem order_stands {d e:Datum} {a b:Int} (hd:Stands d a) (he:Stands e b):d.order e=some (compare a b):=by
 obtain ⟨k,rfl⟩:=hd
 obtain ⟨l,rfl⟩:=he
 unfold Datum.order
 simp only [base_eq]
 rw [show (-(k:Int) - -((max k l:Nat):Int)).toNat=max k l - k by omega,show (-(l:Int) - -((max k l:Nat):Int)).toNat=max k l - l by omega,signed_abs,signed_abs,
  show k+(max k l - k)=max k l by omega,show l+(max k l - l)=max k l by omega]
 have hp:(0:Int) < 2 ^ (max k l):=Int.pow_pos (by decide)
 congr 1
 simp only [compare,compareOfLessAndEq]
 have e1:a*2 ^ max k l < b*2 ^ max k l↔a < b:=⟨fun h=>Int.lt_of_mul_lt_mul_right h (Int.le_of_lt hp),fun h=>Int.mul_lt_mul_of_pos_right h hp⟩
 have e2:a*2 ^ max k l=b*2 ^ max k l↔a=b:=⟨fun h=>Int.eq_of_mul_eq_mul_right (by omega) h,fun h=>by rw [h]⟩
 simp only [e1,e2]
theorem toInt_stands {d:Datum} {a:Int} (hd:Stands d a):d.toInt .zero=some a:=by
 obtain ⟨k,rfl⟩:=hd
 unfold Datum.toInt Datum.integral
 simp only
 rw [show (-(k:Int)).toNat=0 by omega,show (- -(k:Int)).toNat=k by omega,Nat.shiftLeft_eq,Nat.pow_zero,Nat.mul_one,cut_exact .zero _ _ _ (.inr rfl)]
 have:=signed_abs a 0 0
 simp only [Nat.pow_zero,Nat.mul_one] at this
 rw [this]
 simp
theorem fl_order {a b:Int} (ha:a.natAbs < 2 ^ 53) (hb:b.natAbs < 2 ^ 53):FloatKind.f64.format.order (fl a) (fl b)=some (compare a b):=order_stands (read_fl ha) (read_fl hb)
theorem fl_toInt {a:Int} (ha:a.natAbs < 2 ^ 53):(FloatKind.f64.decode (fl a)).toInt .zero=some a:=toInt_stands (read_fl ha)
end Vc
end Go.Proofs.YtgfmfgombmpodaaGreatDoor
namespace Go.Proofs.YtgfmfgombmpodaaGreatDoor
open Go.RowKit Pv Vc Ieee
set_option linter.unusedVariables false
def Cnt (n:Int):Prop:=0<=n /\ n<=1125899906842624
theorem Cnt.abs {n:Int} (h:Cnt n):n.natAbs < 2 ^ 53:=by
 unfold Cnt at h
 omega
theorem fl_zero:fl 0=0:=by decide +kernel
theorem fl_most:fl 1125899906842624=4832362400168542208:=by decide +kernel
end Go.Proofs.YtgfmfgombmpodaaGreatDoor
namespace Go.Proofs.YtgfmfgombmpodaaGreatDoor
open Go.RowKit Pv Vc
set_option linter.unusedVariables false
def isCnt (n:Int):Bool:=decide (0<=n)&&decide (n<=1125899906842624)
noncomputable def userG (x:RSt) (a:List Int) (sa di:List Int×Bool) (n up dn:Int×Bool):Option (RSt×Int):=
 cond (sa.2&&(di.2&&(n.2&&(up.2&&dn.2)))) (cond (Nat.beq x.us.length 16) (some (x,7)) (cond (List.isEmpty sa.1||(List.isEmpty di.1 || !(isCnt up.1&&isCnt dn.1))) none
  (some ({ x with us:=x.us++[(a,(sa.1,di.1),n.1,(fl up.1,fl dn.1),[])] },0)))) (some (x,2))
noncomputable def userP (x:RSt):List (List Int)->Option (RSt×Int)
  | [a, b, c, d, e, f] => (F_conf_named a).bind fun q => cond q (cond (decide (0 <= usAt x.us a)) (some (x, 2)) (
      (F_conf_bytesOf b 1 32).bind fun sa=>(F_conf_bytesOf c 32 32).bind fun di=>(F_conf_number d 1 1000).bind fun n=>(F_conf_number e 0 1125899906842624).bind fun up=>(F_conf_number f 0 1125899906842624).bind fun dn=>userG x a sa di n up dn)) (some (x,2))
  | _=>some (x,2)
theorem add_pos (a:Addr) {j:Nat} (hj:j≠0):a.add j=⟨a.block,a.off+j,none⟩:=by
 unfold Addr.add
 rw [if_neg hj]
theorem cell_b {w w':World} {a:Addr} {u:Value} (h:w.cell? a=some u) (hb:Below w.heap.size w w'):w'.cell? a=some u:=(hb.cell (cell_lt h)).trans h
def userZ:Value:=.agg #[.string ⟨#[]⟩,.slice none 0 0,.slice none 0 0,.int .i64 0,.complex .f64 0 0,.slice none 0 0]
theorem infoUs:(Tryz.prog.info? 63).map (fun i=>(i.zero,i.size,i.bytes))=some (some userZ,6,112):=by kernel_rfl
theorem row_slice {lo:Nat} {w:World} {role:Nat->Role} {ro:Role} {E:TypeId} {e:Ty} {l:List e.D} {v:Value} (h:RowAt lo w role ro E e l v):∃ a n c,v=.slice a n c:=by
 obtain ⟨xs,h1,_⟩:=h
 rcases h1.2 with ⟨rfl,_⟩ | ⟨g,cap,cur,rfl,_⟩
 ·exact ⟨_,_,_,rfl⟩
 ·exact ⟨_,_,_,rfl⟩
structure UsrAns (s0 s1 s2 s3 s4 s5:ByteArray) (sa di:List Int×Bool) (n up dn:Int×Bool):Prop where
 h0:F_conf_named (bytesL s0)=some true
 h1:F_conf_bytesOf (bytesL s1) 1 32=some sa
 h2:F_conf_bytesOf (bytesL s2) 32 32=some di
 h3:F_conf_number (bytesL s3) 1 1000=some n
 h4:F_conf_number (bytesL s4) 0 1125899906842624=some up
 h5:F_conf_number (bytesL s5) 0 1125899906842624=some dn
end Go.Proofs.YtgfmfgombmpodaaGreatDoor
namespace Go.Proofs.YtgfmfgombmpodaaGreatDoor
open Go.RowKit Pv
set_option linter.unusedVariables false
abbrev PatD:=Bool×Int×List Int×List Int×Int×Int×Int×Bool
def ruleG (x:RSt) (a:List Int) (allow:Bool) (p:PatD) (sp:Int×Int×Bool):Option (RSt×Int):=
 cond (p.2.2.2.2.2.2.2&&sp.2.2) (match x.us[(usAt x.us a).toNat]? with
  | none=>none
  | some u=>cond (Nat.beq u.2.2.2.2.length 64) (some (x,7)) (cond (Nat.ble u.2.2.2.2.length 64) (some ({ x with us:=x.us.set (usAt x.us a).toNat (u.1,u.2.1,u.2.2.1,u.2.2.2.1,u.2.2.2.2++[(allow,p.2.1,p.2.2.1,(p.2.2.2.1,p.2.2.2.2.1),sp.1,sp.2.1)]) },0)) none)) (some (x,2))
noncomputable def ruleP (x:RSt) (allow:Bool):List (List Int)->Option (RSt×Int)
 | [a,b,c]=>cond (decide (usAt x.us a < 0)) (some (x,2)) ((F_conf_pattern b).bind fun p=>(F_conf_span c).bind fun sp=>ruleG x a allow p sp)
 | _=>some (x,2)
theorem usAt_in:∀ (us:List UserD) (s:List Int),-1<=usAt us s /\ usAt us s < us.length
 | [],s=>⟨Int.le_refl _,by show (-1:Int) < 0;decide⟩
 | u::us,s=>by
  have ih:=usAt_in us s
  rw [List.length_cons]
  show -1<=cond (u.1==s) 0 (cond (decide (usAt us s = -1)) (-1) (usAt us s+1)) /\ cond (u.1==s) 0 (cond (decide (usAt us s = -1)) (-1) (usAt us s+1)) < _
  cases u.1==s
  ·cases hq:decide (usAt us s = -1)
   ·show -1<=usAt us s+1 /\ usAt us s+1 < _
    omega
   ·show -1<=(-1:Int) /\ (-1:Int) < _
    omega
  ·show -1<=(0:Int) /\ (0:Int) < _
   omega
theorem rule_rep {w:World} {C:Com} {a:Bool} {k n f t:Int} {s3 s4:ByteArray} (h3:s3.size<=maxLen) (h4:s4.size<=maxLen) (hk:(Lit.int .i64 k).wf=true) (hn:(Lit.int .i64 n).wf=true) (hf:(Lit.int .i64 f).wf=true) (ht:(Lit.int .i64 t).wf=true) :
  RepD w C ruleT ((a,k,bytesL s3,(bytesL s4,n),f,t):RuleD) [.bool a,.int .i64 k,.string s3,.string s4,.int .i64 n,.int .i64 f,.int .i64 t]:=
 ⟨[_],_,rfl,rfl,[_],_,rfl,⟨rfl,hk⟩,[_],_,rfl,⟨s3,rfl,rfl,h3⟩,[_,_],_,rfl,⟨[_],[_],rfl,⟨s4,rfl,rfl,h4⟩,rfl,hn⟩,[_],[_],rfl,⟨rfl,hf⟩,rfl,ht⟩
theorem cells7 {w:World} {b:Nat} {v0 v1 v2 v3 v4 v5 v6:Value} {T:TypeId} (h:w.heap[b]? = some (.cells #[v0,v1,v2,v3,v4,v5,v6] T (0,0))):w.cell? ⟨b,0,none⟩=some v0 /\ w.cell? ⟨b,1,none⟩=some v1 /\ w.cell? ⟨b,2,none⟩=some v2 /\ w.cell? ⟨b,3,none⟩=some v3 /\ w.cell? ⟨b,4,none⟩=some v4 /\ w.cell? ⟨b,5,none⟩=some v5 /\ w.cell? ⟨b,6,none⟩=some v6 /\ ∀ o,w.frozen? ⟨b,o,none⟩=false:=by
 refine ⟨?_,?_,?_,?_,?_,?_,?_,fun o=>?_⟩ <;> first | (rw [cell_at h];rfl) | simp [World.frozen?,h]
def limW (k:Nat):ByteArray:=match k with
 | 0=>⟨#[99,111,110,110,115]⟩
 | 1=>⟨#[115,116,114,101,97,109,115]⟩
 | 2=>⟨#[98,117,102,102,101,114]⟩
 | 3=>⟨#[108,111,103]⟩
 | 4=>⟨#[105,100,108,101]⟩
 | 5=>⟨#[100,105,97,108]⟩
 | _=>⟨#[108,105,115,116]⟩
def limLo (k:Nat):Int:=match k with | 3=>0 | _=>1
def limHi (k:Nat):Int:=match k with
 | 0=>16
 | 1=>100
 | 2=>65535
 | 3=>100000
 | 4=>1099511627776
 | 5=>1099511627776
 | _=>16384
def limCells (R:Nat):Array Value:=#[.string (limW 0),.int .i64 (limLo 0),.int .i64 (limHi 0),.pointer (some ⟨R,0,none⟩),.string (limW 1),.int .i64 (limLo 1),.int .i64 (limHi 1),.pointer (some ⟨R,1,none⟩),.string (limW 2),.int .i64 (limLo 2),.int .i64 (limHi 2),.pointer (some ⟨R,2,none⟩),.string (limW 3),.int .i64 (limLo 3),.int .i64 (limHi 3),.pointer (some ⟨R,3,none⟩),.string (limW 4),.int .i64 (limLo 4),.int .i64 (limHi 4),.pointer (some ⟨R,4,none⟩),.string (limW 5),.int .i64 (limLo 5),.int .i64 (limHi 5),.pointer (some ⟨R,5,none⟩),.string (limW 6),.int .i64 (limLo 6),.int .i64 (limHi 6),.pointer (some ⟨R,6,none⟩)]
set_option maxHeartbeats 8000000 in
set_option maxRecDepth 1000000 in
theorem lims_walk (R:Nat) (w:World):Calls Tryz.prog 60 #[.pointer (some ⟨R,0,none⟩)] w fun e w'=>e=.returned (.slice (some ⟨w.heap.size,0,none⟩) 7 7) /\ w'.heap[w.heap.size]? = some (.cells (limCells R) 124 (0,0)) /\ Below w.heap.size w w':=by
 go_enter Tryz.func60,Tryz.ntmps60
 go_wp2
 go_region
 go_wp2
 go_ret
 exact ⟨rfl,heap_alloc_new w _,Below.drew ((Below.refl _ w).alloc (Nat.le_refl _) _)⟩
theorem lim_at {w:World} {B R:Nat} {T:TypeId} (h:w.heap[B]? = some (.cells (limCells R) T (0,0))) {k:Nat} (hk:k < 7):w.cell? ⟨B,k*4,none⟩=some (.string (limW k)) /\ w.cell? ⟨B,k*4+1,none⟩=some (.int .i64 (limLo k)) /\ w.cell? ⟨B,k*4+2,none⟩=some (.int .i64 (limHi k)) /\ w.cell? ⟨B,k*4+3,none⟩=some (.pointer (some ⟨R,k,none⟩)):=by
 match k,hk with
 | 0,_ | 1,_ | 2,_ | 3,_ | 4,_ | 5,_ | 6,_=>refine ⟨?_,?_,?_,?_⟩ <;> (rw [cell_at h];rfl)
 | k+7,hk=>omega
def RSt.setLim (x:RSt) (k:Nat) (n:Int):RSt:=match k with
 | 0=>{ x with c0:=n }
 | 1=>{ x with c1:=n }
 | 2=>{ x with c2:=n }
 | 3=>{ x with c3:=n }
 | 4=>{ x with c4:=n }
 | 5=>{ x with c5:=n }
 | _=>{ x with c6:=n }
def RSt.lim (x:RSt) (k:Nat):Int:=match k with
 | 0=>x.c0
 | 1=>x.c1
 | 2=>x.c2
 | 3=>x.c3
 | 4=>x.c4
 | 5=>x.c5
 | _=>x.c6
def limAt (a:List Int):Option Nat:=(List.range 7).find? fun k=>bytesL (limW k)==a
noncomputable def limitsP (x:RSt):List (List Int)->Option (RSt×Bool)
 | [a,b]=>cond (x.told.contains a) (some (x,false)) (match limAt a with
  | none=>some (x,false)
  | some k=>(F_conf_number b (limLo k) (limHi k)).bind fun p=>some ({ x.setLim k p.1 with told:=x.told++[a] },p.2))
 | _=>some (x,false)
theorem limAt_some {a:List Int} {k:Nat} (hk:k < 7) (h:(bytesL (limW k)==a)=true) (hn:∀ j,j < k->(bytesL (limW j)==a)=false):limAt a=some k:=by
 unfold limAt
 rw [List.find?_range_eq_some]
 refine ⟨h,by simpa using hk,fun j hj=>?_⟩
 rw [hn j hj];rfl
theorem limAt_none {a:List Int} (hn:∀ j,j < 7->(bytesL (limW j)==a)=false):limAt a=none:=by
 unfold limAt
 rw [List.find?_eq_none]
 intro k hk
 rw [hn k (by simpa using hk)]
 decide
theorem strs_of:∀ (l:List (List Int)) (cur:Array Value),(∀ (i:Nat) (y:List Int),l[i]? = some y -> ∃ t:ByteArray,cur[i]? = some (.string t) /\ bytesL t=y /\ t.size<=maxLen) -> ∃ ws:List ByteArray,ws.map bytesL=l /\ ∀ (i:Nat) (t:ByteArray),ws[i]? = some t->cur[i]? = some (.string t) /\ t.size<=maxLen:=by
 intro l cur h
 have key:∀ k,k<=l.length -> ∃ ws:List ByteArray,ws.map bytesL=l.take k /\ ∀ (i:Nat) (t:ByteArray),ws[i]? = some t->cur[i]? = some (.string t) /\ t.size<=maxLen:=by
  intro k
  induction k with
  | zero=>exact fun _=>⟨[],rfl,fun i t ht=>by simp at ht⟩
  | succ k ih=>
   intro hk
   obtain ⟨ws,h1,h2⟩:=ih (by omega)
   have hget:l[k]? = some l[k]:=List.getElem?_eq_getElem (by omega)
   obtain ⟨t,ht,ht2,ht3⟩:=h k _ hget
   have hl:ws.length=k:=by
    have:=congrArg List.length h1
    rw [List.length_map,List.length_take] at this
    omega
   refine ⟨ws++[t],?_,fun i u hu=>?_⟩
   ·rw [List.map_append,h1,List.take_add_one,hget,<- ht2];rfl
   ·rcases Nat.lt_or_ge i ws.length with hi | hi
    ·rw [List.getElem?_append_left hi] at hu
     exact h2 i u hu
    ·rw [List.getElem?_append_right hi] at hu
     have hi2:i=k:=by
      have:=(List.getElem?_eq_some_iff.1 hu).1
      simp at this
      omega
     subst hi2
     rw [hl,Nat.sub_self] at hu
     injection hu with hu
     subst hu
     exact ⟨ht,ht3⟩
 obtain ⟨ws,h1,h2⟩:=key l.length (Nat.le_refl _)
 exact ⟨ws,by rw [h1,List.take_length],h2⟩
def lbL:List Int:=[108,105,109,105,116]
def lbU:List Int:=[117,115,101,114]
def lbA:List Int:=[97,108,108,111,119]
def lbD:List Int:=[100,101,110,121]
theorem ln_lit (s:ByteArray) (l:List UInt8):(s.toList==l)=(bytesL s==l.map byteI):=by
 have h:=bytes_eq s ⟨l.toArray⟩
 have e:(⟨l.toArray⟩:ByteArray).toList=l:=by rw [toList_data]
 rw [e] at h
 exact h
noncomputable def lineW (x:RSt) (w0:List Int) (ws:List (List Int)):Option (RSt×Int):=
 cond (w0==lbL) ((limitsP x ws).map fun p=>(p.1,cond p.2 0 2)) (cond (w0==lbU) (userP x ws) (cond (w0==lbA) (ruleP x true ws) (cond (w0==lbD) (ruleP x false ws) (some (x,2)))))
noncomputable def lineP (x:RSt) (s:List Int):Option (RSt×Int):=cond (Nat.ble s.length 4000000000&&Nat.ble x.us.length 16) (match splitI s 32 with
 | []=>none
 | w0::ws=>lineW x w0 ws) none
end Go.Proofs.YtgfmfgombmpodaaGreatDoor
namespace Go.Proofs.YtgfmfgombmpodaaGreatDoor
open Go.RowKit Go.Lib Pv
set_option linter.unusedVariables false
def confZ:Value:=.agg #[.int .i64 16,.int .i64 100,.int .i64 65535,.int .i64 1000,.int .i64 1000000,.int .i64 1000,.int .i64 16384,.slice none 0 0]
theorem sizeC:sizeT Tryz.prog 51=some 8:=by kernel_rfl
theorem agC:isAg Tryz.prog 51=true:=by kernel_rfl
theorem conf_ret {w:World} {R:Nat} {v0 v1 v2 v3 v4 v5 v6 v7 v:Value} {T:TypeId} {a:Act} {Z:Ending->World->Prop} (hd:a.defers=[]) (h2:a.tmps.getD 2 undef=.pointer (some ⟨R,0,none⟩)) (h3:a.tmps.getD 3 undef=v)
  (hR:w.heap[R]? = some (.cells #[v0,v1,v2,v3,v4,v5,v6,v7] T (0,0)))
  (hZ:Z (.returned (.tuple #[.agg #[v0,v1,v2,v3,v4,v5,v6,v7],v])) w):bodyPost Tryz.prog Tryz.f27 Z .ret a w:=by
 have hl:=run_loadVar_cells (P:=Tryz.prog) (w:=w) (t:=51) (ad:=⟨R,0,none⟩) (us:=[v0,v1,v2,v3,v4,v5,v6,v7]) sizeC rfl agC (fun j x hj=>by
  show w.cell? ((⟨R,0,none⟩:Addr).add j)=_
  have e:(⟨R,0,none⟩:Addr).add j=⟨R,j,none⟩:=by unfold Addr.add;simp;omega
  rw [e,Lib.cell_of_heap hR]
  rw [<-hj];simp)
 refine bodyPost_ret ?_ hd hZ
 rw [results_cell_tmp (p:=2) (u:=3) (ty:=51) rfl,h2,h3]
 simp [asAddr,hl]
theorem four (w:World) {W':World} (o1 o2 o3 o4:Obj) (h:(((w.alloc o1).alloc o2).alloc o3).alloc o4=W'):Below w.heap.size w W' /\ W'.heap[w.heap.size]? = some o1:=by
 have sz:∀ (w:World) (o:Obj),(w.alloc o).heap.size=w.heap.size+1:=fun w o=>by simp
 rw [<-h]
 refine ⟨((((Below.refl _ w).alloc (Nat.le_refl _) _).alloc (by rw [sz];omega) _).alloc (by rw [sz,sz];omega) _).alloc (by rw [sz,sz,sz];omega) _,?_⟩
 rw [Lib.alloc_old _ _ _ (by rw [sz,sz,sz];omega),Lib.alloc_old _ _ _ (by rw [sz,sz];omega),Lib.alloc_old _ _ _ (by rw [sz];omega)]
 rw [show (w.alloc o1).heap=w.heap.push o1 from rfl]
 simp
def confW (w:World):World:=((((w.alloc (Obj.cells #[Value.int IntKind.i64 0,Value.int IntKind.i64 0,Value.int IntKind.i64 0,Value.int IntKind.i64 0,Value.int IntKind.i64 0,Value.int IntKind.i64 0,Value.int IntKind.i64 0,Value.slice none 0 0] 51)).alloc (Obj.cells #[Value.int IntKind.i64 16,Value.int IntKind.i64 100,Value.int IntKind.i64 65535,Value.int IntKind.i64 1000,Value.int IntKind.i64 1000000,Value.int IntKind.i64 1000,Value.int IntKind.i64 16384,Value.slice none 0 0] 51)).alloc (Obj.map #[] 0)).alloc (Obj.cells #[Value.int IntKind.i64 16,Value.int IntKind.i64 100,Value.int IntKind.i64 65535,Value.int IntKind.i64 1000,Value.int IntKind.i64 1000000,Value.int IntKind.i64 1000,Value.int IntKind.i64 16384,Value.slice none 0 0,Value.map (some (w.heap.size+1+1))] 110))
end Go.Proofs.YtgfmfgombmpodaaGreatDoor
namespace Go.Proofs.YtgfmfgombmpodaaGreatDoor
open Go.RowKit Pv
set_option linter.unusedVariables false
def rst0:RSt:=⟨16,100,65535,1000,1000000,1000,16384,[],[]⟩
def skipL (s:List Int):Bool:=List.isEmpty s||(s.headD 0==35)
noncomputable def parseL:List (List Int)->RSt->Option (RSt×Int)
 | [],x=>some (x,0)
 | s::r,x=>cond (skipL s) (parseL r x) ((lineP x s).bind fun p=>cond (decide (p.2=0)) (parseL r p.1) (some p))
theorem cells8 {w:World} {b:Nat} {v0 v1 v2 v3 v4 v5 v6 v7:Value} {T:TypeId} (h:w.heap[b]? = some (.cells #[v0,v1,v2,v3,v4,v5,v6,v7] T (0,0))):w.cell? ⟨b,0,none⟩=some v0 /\ w.cell? ⟨b,1,none⟩=some v1 /\ w.cell? ⟨b,2,none⟩=some v2 /\ w.cell? ⟨b,3,none⟩=some v3 /\ w.cell? ⟨b,4,none⟩=some v4 /\ w.cell? ⟨b,5,none⟩=some v5 /\ w.cell? ⟨b,6,none⟩=some v6 /\ w.cell? ⟨b,7,none⟩=some v7 /\
  w.frozen? ⟨b,0,none⟩=false /\ w.frozen? ⟨b,1,none⟩=false /\ w.frozen? ⟨b,2,none⟩=false /\ w.frozen? ⟨b,3,none⟩=false /\ w.frozen? ⟨b,4,none⟩=false /\ w.frozen? ⟨b,5,none⟩=false /\ w.frozen? ⟨b,6,none⟩=false /\ w.frozen? ⟨b,7,none⟩=false:=by
 refine ⟨?_,?_,?_,?_,?_,?_,?_,?_,?_,?_,?_,?_,?_,?_,?_,?_⟩ <;> first | (rw [cell_at h];rfl) | simp [World.frozen?,h]
set_option maxHeartbeats 4000000 in
theorem set8 {w W:World} {b:Nat} {u0 u1 u2 u3 u4 u5 u6 u7 v0 v1 v2 v3 v4 v5 v6 v7:Value} {T:TypeId} (h:w.heap[b]? = some (.cells #[u0,u1,u2,u3,u4,u5,u6,u7] T (0,0))) (hW:((((((((w.setCell ⟨b,0,none⟩ v0).setCell ⟨b,1,none⟩ v1).setCell ⟨b,2,none⟩ v2).setCell ⟨b,3,none⟩ v3).setCell ⟨b,4,none⟩ v4).setCell ⟨b,5,none⟩ v5).setCell ⟨b,6,none⟩ v6).setCell ⟨b,7,none⟩ v7)=W) :
  W.heap[b]? = some (.cells #[v0,v1,v2,v3,v4,v5,v6,v7] T (0,0)) /\ (∀ k,k≠b->W.heap[k]? = w.heap[k]?) /\ W.heap.size=w.heap.size /\ W.os=w.os /\ W.tape=w.tape /\ W.output=w.output:=by
 have hsz:∀ (w:World) (a:Addr) (u:Value),(w.setCell a u).heap.size=w.heap.size:=fun w a u=>by simp [World.setCell]
 have hos:∀ (w:World) (a:Addr) (u:Value),(w.setCell a u).os=w.os /\ (w.setCell a u).tape=w.tape /\ (w.setCell a u).output=w.output:=fun w a u=>⟨rfl,rfl,rfl⟩
 subst hW
 refine ⟨?_,fun k hk=>?_,by rw [hsz,hsz,hsz,hsz,hsz,hsz,hsz,hsz],by rw [(hos _ _ _).1,(hos _ _ _).1,(hos _ _ _).1,(hos _ _ _).1,(hos _ _ _).1,(hos _ _ _).1,(hos _ _ _).1,(hos _ _ _).1],by rw [(hos _ _ _).2.1,(hos _ _ _).2.1,(hos _ _ _).2.1,(hos _ _ _).2.1,(hos _ _ _).2.1,(hos _ _ _).2.1,(hos _ _ _).2.1,(hos _ _ _).2.1],by rw [(hos _ _ _).2.2,(hos _ _ _).2.2,(hos _ _ _).2.2,(hos _ _ _).2.2,(hos _ _ _).2.2,(hos _ _ _).2.2,(hos _ _ _).2.2,(hos _ _ _).2.2]⟩
 ·rw [set_heap (set_heap (set_heap (set_heap (set_heap (set_heap (set_heap (set_heap h)))))))]
  rfl
 ·rw [setCell_heap,if_neg hk,setCell_heap,if_neg hk,setCell_heap,if_neg hk,setCell_heap,if_neg hk,setCell_heap,if_neg hk,setCell_heap,if_neg hk,setCell_heap,if_neg hk,setCell_heap,if_neg hk]
theorem below_set {w wr W:World} (hb:Below w.heap.size w wr) (h1:∀ k,k≠w.heap.size->W.heap[k]? = wr.heap[k]?) (h2:W.heap.size=wr.heap.size) (h3:W.os=wr.os /\ W.tape=wr.tape /\ W.output=wr.output):Below w.heap.size w W:=
 ⟨h3.1.trans hb.os,h3.2.1.trans hb.tape,h3.2.2.trans hb.output,by rw [h2];exact hb.size,fun k hk=>(h1 k (by omega)).trans (hb.block k hk)⟩
theorem par_cell {w w':World} {a:Addr} {u:Value} (h:w.cell? a=some u) (hb:Below w.heap.size w w'):w'.cell? a=some u:=(hb.cell (cell_lt h)).trans h
theorem strs_any {P:Nat->ByteArray->Prop}:∀ (l:List (List Int)),(∀ (i:Nat) (y:List Int),l[i]? = some y -> ∃ t:ByteArray,P i t /\ bytesL t=y) -> ∃ ws:List ByteArray,ws.map bytesL=l /\ ∀ (i:Nat) (t:ByteArray),ws[i]? = some t->P i t:=by
 intro l h
 have key:∀ k,k<=l.length -> ∃ ws:List ByteArray,ws.map bytesL=l.take k /\ ∀ (i:Nat) (t:ByteArray),ws[i]? = some t->P i t:=by
  intro k
  induction k with
  | zero=>exact fun _=>⟨[],rfl,fun i t ht=>by simp at ht⟩
  | succ k ih=>
   intro hk
   obtain ⟨ws,h1,h2⟩:=ih (by omega)
   have hget:l[k]? = some l[k]:=List.getElem?_eq_getElem (by omega)
   obtain ⟨t,ht,ht2⟩:=h k _ hget
   have hl:ws.length=k:=by
    have:=congrArg List.length h1
    rw [List.length_map,List.length_take] at this
    omega
   refine ⟨ws++[t],?_,fun i u hu=>?_⟩
   ·rw [List.map_append,h1,List.take_add_one,hget,<- ht2];rfl
   ·rcases Nat.lt_or_ge i ws.length with hi | hi
    ·rw [List.getElem?_append_left hi] at hu
     exact h2 i u hu
    ·rw [List.getElem?_append_right hi] at hu
     have hi2:i=k:=by
      have:=(List.getElem?_eq_some_iff.1 hu).1
      simp at this
      omega
     subst hi2
     rw [hl,Nat.sub_self] at hu
     injection hu with hu
     subst hu
     exact ht
 obtain ⟨ws,h1,h2⟩:=key l.length (Nat.le_refl _)
 exact ⟨ws,by rw [h1,List.take_length],h2⟩
theorem row_rep {lo:Nat} {w:World} {role:Nat->Role} {ro:Role} {E:TypeId} {e:Ty} {l:List e.D} {v:Value} {C:Com} (h:RowAt lo w role ro E e l v) (he:flatT e=true) (hC:∀ b o,v.ownBlock=some b->o < List.length l*e.size->C b o):RepD w C (.sl e) l [v]:=by
 obtain ⟨xs,h1,h2,h3⟩:=h
 rcases h1.2 with ⟨rfl,hn⟩ | ⟨g,cap,cur,rfl,hb,hg,hlc,hcm,hcs,ht⟩
 ·refine ⟨none,0,0,rfl,hn,Nat.le_refl _,by unfold maxLen;omega,fun i x hx=>?_⟩
  have hx:l[i]? = some x:=hx
  have:=(List.getElem?_eq_some_iff.1 hx).1
  omega
 ·refine ⟨_,_,_,rfl,rfl,hlc,hcm,fun i x hx=>?_⟩
  have hx:l[i]? = some x:=hx
  have hi:=(List.getElem?_eq_some_iff.1 hx).1
  have hr:=h3 i x hx
  refine ⟨⟨g,0,none⟩,(xs.drop (i*e.size)).take e.size,rfl,RepD.len hr,fun j u hj=>?_,repD_flat he hr⟩
  have hjl:j < e.size:=by
   have h4:=(List.getElem?_eq_some_iff.1 hj).1
   have h5:=RepD.len hr
   omega
  rw [List.getElem?_take,if_pos hjl,List.getElem?_drop] at hj
  refine ⟨h1.cells (g:=g) rfl _ u hj,?_⟩
  refine hC g _ rfl ?_
  have h6:(i+1)*e.size<=List.length l*e.size:=Nat.mul_le_mul_right _ hi
  rw [Nat.add_mul,Nat.one_mul] at h6
  show 0+(i*e.size+j) < _
  omega
theorem user_rep {lo:Nat} {w:World} {role:Nat->Role} {i:Nat} {u:UserD} {cs:List Value} {C:Com} (h:UserAt lo w role i u cs) (hC:∀ b o,role b=.flat \/ role b=.row i->C b o):RepD w C userT u cs:=by
 obtain ⟨nm,vs,vd,vr,rfl,h2,h3,h4,h5,h6,h7⟩:=h
 have k5:=row_rep (C:=C) h5 rfl fun b o hb _=>hC b o (.inl (by obtain ⟨_,_,q,_⟩:=h5;exact q b hb))
 have k6:=row_rep (C:=C) h6 rfl fun b o hb _=>hC b o (.inl (by obtain ⟨_,_,q,_⟩:=h6;exact q b hb))
 have k7:=row_rep (C:=C) h7 rfl fun b o hb _=>hC b o (.inr (by obtain ⟨_,_,q,_⟩:=h7;exact q b hb))
 exact ⟨[_],_,rfl,⟨nm,rfl,h2,h3⟩,[_,_],_,rfl,⟨[_],[_],rfl,k5,k6⟩,[_],_,rfl,⟨rfl,h4⟩,[_],_,rfl,rfl,k7⟩
def F_conf_Parse_sig:Sig:=⟨[.v false [.d (.sl .str)]],[(true,[.d (.int .i64),.d (.int .i64),.d (.int .i64),.d (.int .i64),.d (.int .i64),.d (.int .i64),.d (.int .i64),.own 63 (.pr .str (.pr (.pr (.sl (.int .u8)) (.sl (.int .u8))) (.pr (.int .i64) (.pr (.cpx .f64) (.sl (.pr .bool (.pr (.int .i64) (.pr .str (.pr (.pr .str (.int .i64)) (.pr (.int .i64) (.int .i64)))))))))))]),(false,[.d (.int .i64)])]⟩
abbrev ConfR:=Int×Int×Int×Int×Int×Int×Int×List UserD×Int
end Go.Proofs.YtgfmfgombmpodaaGreatDoor
namespace Go.Proofs.YtgfmfgombmpodaaGreatDoor
open Pv
set_option linter.unusedVariables false
noncomputable def F_wlvref_Dec_step (r0:Int->Option (List Int)) (i1:Int):Option (List Int):=
 cond (decide (i1 < 10))
 (some ([(IntKind.u8.wrap (IntKind.i64.wrap (48+(maxI i1 0))))]:List Int))
 ((r0 (IntKind.i64.wrap (Int.tdiv i1 10))).bind fun s2=>
 chk (Nat.ble (s2.length+([(IntKind.u8.wrap (IntKind.i64.wrap (48+(Int.tmod i1 10))))]:List Int).length) maxLen)
 (some (s2++([(IntKind.u8.wrap (IntKind.i64.wrap (48+(Int.tmod i1 10))))]:List Int))))
def F_wlvref_Dec_sig:Sig:=⟨[.v false [.d (.int .i64)]],[(false,[.d .str])]⟩
def F_wlvref_Dec_ann:List (Nat×Ann):=[]
noncomputable def F_wlvref_Dec_env (r0:Int->Option (List Int)):Env:=⟨Tryz.prog,[(30,⟨F_wlvref_Dec_sig,⟨r0⟩⟩)],[]⟩
theorem F_wlvref_Dec_text (r0:Int->Option (List Int)):pvFn (F_wlvref_Dec_env r0) F_wlvref_Dec_ann Tryz.f30 F_wlvref_Dec_sig=F_wlvref_Dec_step r0:=by kernel_rfl
noncomputable def F_wlvref_Dec_fuel:Nat->Int->Option (List Int)
 | 0=>Pv.botF (α:=List Int) [(.int .i64)]
 | k+1=>F_wlvref_Dec_step (F_wlvref_Dec_fuel k)
noncomputable def F_wlvref_Dec:Int->Option (List Int):=F_wlvref_Dec_fuel 64
end Go.Proofs.YtgfmfgombmpodaaGreatDoor
