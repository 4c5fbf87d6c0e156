/- Texts of this claim, one behind the other. -/
import Derived.Test.YtgfmfgombmpodaaGreatDoorConfReadsM2
import Derived.Deep.LoopGhost
import Derived.Below
import Derived.WideShapes
import Derived.ChangeShapes
import Derived.ChangeAt
import Derived.RowKit
import Derived.Deep.Slices
import Derived.WalkKit
import Derived.ProofKit
import Derived.ShutString
import Derived.Lib.LaidTab
import Derived.LaidSub
import Derived.MakeChecks
import Derived.Sort.Grow
import Derived.Deep.Draws
import Derived.OwnWalk
import Derived.KernelRfl
import Derived.Test.YtgfmfgombmpodaaGreatDoorProg
import Derived.Shelf.Strings.Builder1
import Derived.Shelf.Strings.Builder2
import Derived.Shelf.Strings.OnBuilder
import Derived.Shelf.Small.Wraps
import Derived.Shelf.Strings.BuilderF
import Derived.Shelf.Strings.BuilderK
import Derived.Shelf.Strings.Builder2Cap
import Derived.Shelf.Strconv.Atoi
import Derived.Shelf.Strconv.Itoa0
import Derived.Shelf.Strconv.Itoa1
import Derived.Shelf.LaysM
import Derived.Shelf.Strconv.Itoa2
import Derived.Shelf.Strconv.Itoa3
import Derived.Shelf.Strconv.AtoiErrFast
import Derived.Shelf.Strconv.ParseIntEmpty
import Derived.Shelf.Strconv.AtoiFail
import Derived.Shelf.Strconv.Clone
import Derived.Shelf.Strconv.SyntaxError
import Derived.Shelf.LaysC
import Derived.Shelf.Strconv.ToError
import Derived.Shelf.Strconv.Lower
import Derived.Shelf.Strconv.ParseUint10
import Derived.Shelf.Strconv.ParseUint10Empty
import Derived.Shelf.Strconv.ParseUint10Any
import Derived.Shelf.Strconv.ParseInt10
import Derived.Shelf.Strconv.AtoiLong
import Derived.Shelf.Strconv.AtoiInnerAll
import Derived.Shelf.Strconv.RangeError
import Derived.Shelf.Strconv.ToErrorRange
import Derived.Shelf.Strconv.AtoiAll
import Derived.Shelf.Strings.Search1
import Derived.Shelf.Strings.Search2
import Derived.Shelf.Strings.Search3
import Derived.Shelf.Strings.Cut
import Derived.Shelf.Strings.Count
import Derived.Shelf.Strings.Shaped
import Derived.Shelf.GgClosure.StringsIndexFunc
import Derived.Shelf.GgClosure.StringsIndexFuncTop
import Derived.Shelf.Strings.Prefix
import Derived.Shelf.Strings.Split
import Derived.Shelf.Strings.SplitShaped
import Derived.Shelf.Bits.Mul64
import Derived.Shelf.Unicode.DecodeSlow
import Derived.Shelf.Unicode.DecodeAny
import Derived.Shelf.Strings.FuncGrows
import Derived.Shelf.Strings.BuilderCap
import Derived.Shelf.Bytes.SlSearch0
import Derived.Shelf.Bytes.SlClone
import Derived.Shelf.Bytes.SlEqualAll
import Derived.Shelf.Bytes.Small
import Derived.Lib.SplitLaws
import Derived.Lib.AtoiAllCases
import Derived.HandedShaped
import Derived.LaidLaws
import Derived.Shelf.Vars
import Derived.Handed
import Derived.LoopTactic
import Derived.Handy
import Derived.RegionTactic
import Derived.Carry
import Derived.MapKept
import Derived.Maps.AppendAt
import Derived.Deep.RegionLaw
import Derived.Lib.ItoaLen
import Derived.BigCall
set_option maxRecDepth 100000
namespace Go.Proofs.YtgfmfgombmpodaaGreatDoor
namespace Pv
set_option linter.unusedVariables false
section
variable {E : Env} {F : Fr} {R : Type} {r : R} {ops : Array Oper} {g : Gh} {w : World} {tmf : Nat -> Value}
theorem MRel.drew {st:PSt} (h:MRel F g st tmf w):MRel F g st tmf { w with drawn:=w.drawn+1 }:=by
 have G:Gw w g.C { w with drawn:=w.drawn+1 } g.C:=fun a u hc hC=>⟨hc,hC⟩
 have K:∀ b,Kp g w g { w with drawn:=w.drawn+1 } b:=fun b=>⟨rfl,fun _=>Iff.rfl⟩
 have Lv:∀ k,Lives g w st.O g { w with drawn:=w.drawn+1 } st.O k:=fun k hk=>⟨hk,rfl,fun b _=>K b⟩
 exact ⟨⟨h.fr.size,h.fr.os,h.fr.tape,h.fr.output,h.fr.old,h.fr.shape,h.fr.com,h.fr.mono,h.fr.lim⟩,fun i=>(h.slots i).gw G (fun k _=>Lv k) (fun _ _=>rfl) (fun _ _ _ _ _=>rfl),fun k σ ls hL=>(h.locals k σ ls hL).gw (st:=st) G (fun k _ _ _ _=>Lv k) (K _),
  h.hist,h.kn,h.sp,h.fresh,h.locL,h.blk0,h.blkI,h.blkL,h.blkS,h.blkW,h.ρI⟩
theorem MRel.relike {s X:PSt} (h:MRel F g s tmf w) (hφ:s.φ=X.φ) (hL:s.L=X.L) (hO:s.O=X.O) (hf:∀ x,hasN X.fr x=true->hasN s.fr x=true) (hs:∀ i t want ag ls,X.φ i=.spec t want ag ls->hasN X.sp t=true) (hk:∀ t b,knows X.kn t=some b->tmf t=.bool b):MRel F g X tmf w:=by
 obtain ⟨φ,L,O,kn,sp,fr⟩:=X
 cases hφ;cases hL;cases hO
 exact ⟨h.fr,h.slots,h.locals,h.hist,hk,hs,fun d hd=>h.fresh d (hf d hd),h.locL,h.blk0,h.blkI,h.blkL,h.blkS,h.blkW,h.ρI⟩
theorem facts {A:Nat->Prop} {X:PSt} {φ:Nat->PV} {kn:List (Nat×Bool)} (hM:∀ i,RelP F g w X.O tmf (tmf i) (X.φ i)) (hφ:∀ t,A t->X.φ t=φ t) (hcl:∀ t,A t -> ∀ j w ag ls,φ t=.spec j w ag ls->A j) (hk:KnOK φ kn):∀ t b,A t->knows kn t=some b->tmf t=.bool b:=by
 induction hk with
 | nil=>intro t b _ h;cases h
 | @cons t0 b0 kn h0 hj ih=>
  intro t b ht h
  unfold knows at h
  split at h
  ·rename_i e
   have e:=Nat.eq_of_beq_eq_true e
   subst e
   injection h with h
   subst h
   have h1:=hM t0
   rw [hφ t0 ht] at h1
   rcases hj with hj | ⟨t',w',hj,hk'⟩
   ·rw [hj] at h1
    exact rel_bool h1
   ·have h2:=ih t' w' (hcl t0 ht _ _ _ _ hj) hk'
    rw [hj] at h1
    obtain ⟨b',g1,g2,g3⟩:=h1
    rw [h2] at g1
    have e:b'=w':=by injection g1 with g1;exact g1.symm
    exact rel_bool (tmf:=tmf) (g2 e)
  ·exact ih t b ht h
theorem like_refl (a:PSt):Like a a:=⟨rfl,rfl,rfl,fun _=>rfl⟩
theorem Like.trans {a b c:PSt} (h:Like a b) (k:Like b c):Like a c:=⟨h.1.trans k.1,h.2.1.trans k.2.1,h.2.2.1.trans k.2.2.1,fun x=>(h.2.2.2 x).trans (k.2.2.2 x)⟩
theorem fold_like {S S':Nat->Bool} {l:List Oper} {rs:List Rec} {k:Nat} {X X':PSt} (h:Like X X') (hS:∀ i,i < l.length->S (k+i)=S' (k+i)):Like (fold S l rs k X) (fold S' l rs k X'):=by
 have hS':∀ i (o:Oper) (rc:Rec),l[i]? = some o->rs[i]? = some rc -> ∀ T:Prop,S (k+i)=S' (k+i) \/ ¬ T:=fun i o rc h1 _ _=>.inl (hS i (List.getElem?_eq_some_iff.1 h1).1)
 exact ⟨funext fun t=>fold_agree (view_φ t) l rs k X X' (by rw [h.1]) fun i o rc h1 h2=>hS' i o rc h1 h2 _,funext fun t=>fold_agree (view_L t) l rs k X X' (by rw [h.2.1]) fun i o rc h1 h2=>hS' i o rc h1 h2 _,
  funext fun t=>fold_agree (view_O t) l rs k X X' (by rw [h.2.2.1]) fun i o rc h1 h2=>hS' i o rc h1 h2 _,fun x=>fold_agree (view_fr x) l rs k X X' (h.2.2.2 x) fun i o rc h1 h2=>hS' i o rc h1 h2 _⟩
theorem fold_none {S:Nat->Bool}:∀ (l:List Oper) (rs:List Rec) (k:Nat) (X:PSt),(∀ i,k<=i->S i=false)->fold S l rs k X=X
 | [],_,_,_,_=>rfl
 | _::_,[],_,_,_=>rfl
 | o::l,rc::rs,k,X,h=>by
  unfold fold
  rw [h k (Nat.le_refl k)]
  exact fold_none l rs (k+1) X fun i hi=>h i (by omega)
theorem Run.at {l:List Oper} {st s:PSt} {rs:List Rec} (h:Run E ops l st rs s):∀ (k j:Nat) (o:Oper),l[j]? = some o -> ∃ rc sj sj',rs[j]? = some rc /\ pvStep E ops o sj (fun rc s=>some (rc,s))=some (rc,sj') /\ Like sj (fold (fun i=>decide (i < k+j)) l rs k st) /\ (KnOK st.φ st.kn->KnOK sj.φ sj.kn):=by
 induction h with
 | nil=>intro k j o h;simp at h
 | @cons o l st rc s1 rs s2 h1 h2 ih=>
  intro k j o' hj
  cases j with
  | zero=>
   cases hj
   refine ⟨rc,st,s1,rfl,h1,?_,fun h=>h⟩
   rw [fold_none _ _ _ _ fun i hi=>by simp;omega]
   exact like_refl st
  | succ j=>
   obtain ⟨rc',sj,sj',g1,g2,g3,g4⟩:=ih (k+1) j o' hj
   have hok:=pvStep_ok h1
   refine ⟨rc',sj,sj',g1,g2,g3.trans ?_,fun h=>g4 (hok.kn h)⟩
   have e:fold (fun i=>decide (i < k+(j+1))) (o::l) (rc::rs) k st=fold (fun i=>decide (i < k+(j+1))) l rs (k+1) (appR o.dst rc st):=by
    show fold _ l rs (k+1) (cond (decide (k < k+(j+1))) (appR o.dst rc st) st)=_
    rw [decide_eq_true (by omega)];rfl
   rw [e]
   exact fold_like hok.like fun i _=>by congr 1;simp;omega
theorem Run.last {l:List Oper} {st s:PSt} {rs:List Rec} (h:Run E ops l st rs s):∀ k:Nat,Like s (fold (fun _=>true) l rs k st) /\ (KnOK st.φ st.kn->KnOK s.φ s.kn) /\ ((∀ i t want ag ls,st.φ i=.spec t want ag ls->hasN st.sp t=true) -> ∀ i t want ag ls,s.φ i=.spec t want ag ls->hasN s.sp t=true):=by
 induction h with
 | nil=>exact fun k=>⟨like_refl _,fun h=>h,fun h=>h⟩
 | @cons o l st rc s1 rs s2 h1 h2 ih=>
  intro k
  obtain ⟨g1,g2,g3⟩:=ih (k+1)
  have hok:=pvStep_ok h1
  refine ⟨g1.trans (fold_like hok.like fun _ _=>rfl),fun h=>g2 (hok.kn h),fun h=>g3 fun i t want ag ls hs=>?_⟩
  rw [hok.like.1] at hs
  have hs':putP st.φ o.dst rc.val i=.spec t want ag ls:=hs
  by_cases hi:o.dst=some i
  ·rw [hi,putP_at] at hs'
   exact (hok.spec t want ag ls hs').2
  ·rw [putP_ne hi] at hs'
   exact hok.sp t (h i t want ag ls hs')
theorem insN_mem {n i:Nat} {l:List Nat} (h:i∈insN n l):i=n \/ i∈l:=by
 unfold insN at h
 split at h
 ·exact .inr h
 ·exact List.mem_cons.1 h
theorem unionN_mem {i:Nat}:∀ {l l':List Nat},i∈unionN l l'->i∈l \/ i∈l'
 | [],_,h=>.inr h
 | x::r,l',h=>by
  have h':i∈insN x (unionN r l'):=h
  rcases insN_mem h' with e | h'
  ·exact .inl (by simp [e])
  ·rcases unionN_mem h' with h' | h'
   ·exact .inl (by simp [h'])
   ·exact .inr h'
theorem ancs_fold {acc:List (List Nat)} {i:Nat}:∀ {es:List Edge},i∈es.foldr (fun e l=>insN e.on (unionN (acc.getD e.on []) l)) [] -> ∃ e∈es,i=e.on \/ i∈acc.getD e.on []
 | [],h=>by cases h
 | e::es,h=>by
  rw [List.foldr_cons] at h
  rcases insN_mem h with h | h
  ·exact ⟨e,by simp,.inl h⟩
  ·rcases unionN_mem h with h | h
   ·exact ⟨e,by simp,.inr h⟩
   ·obtain ⟨e',h1,h2⟩:=ancs_fold h
    exact ⟨e',by simp [h1],h2⟩
theorem ancs_old:∀ (l:List Oper) (acc:List (List Nat)) (j:Nat),j < acc.length->(ancs l acc).getD j []=acc.getD j []
 | [],_,_,_=>rfl
 | o::l,acc,j,h=>by
  unfold ancs
  rw [ancs_old l _ j (by simp;omega)]
  simp [List.getD_eq_getElem?_getD,List.getElem?_append_left h]
theorem ancs_get:∀ (l:List Oper) (acc:List (List Nat)) (n:Nat) (o:Oper),l[n]? = some o -> ∀ i,i∈(ancs l acc).getD (acc.length+n) [] -> ∃ e∈o.after.toList,Region.binds .any e=true /\ (i=e.on \/ (e.on < acc.length+n /\ i∈(ancs l acc).getD e.on []))
  | [],_,_,_,h,_,_=>by simp at h
  | o::l,acc,0,o',h,i,hi=>by
    cases h
    unfold ancs at hi ⊢
    rw [ancs_old l _ _ (by simp)] at hi
    have hi':i∈(o.after.toList.filter (Region.binds .any)).foldr (fun e l=>insN e.on (unionN (acc.getD e.on []) l)) []:=by simpa [List.getD_eq_getElem?_getD] using hi
    obtain ⟨e,h1,h2⟩:=ancs_fold hi'
    obtain ⟨h1,h3⟩:=List.mem_filter.1 h1
    refine ⟨e,h1,h3,?_⟩
    rcases h2 with h2 | h2
    · exact .inl h2
    · have hlt : e.on < acc.length := by
        by_cases hlt:e.on < acc.length
        · exact hlt
        · simp [List.getD_eq_getElem?_getD,List.getElem?_eq_none (show acc.length<=e.on by omega)] at h2
      refine .inr ⟨hlt,?_⟩
      rw [ancs_old l _ _ (by simp;omega)]
      simpa [List.getD_eq_getElem?_getD,List.getElem?_append_left hlt] using h2
  | o::l,acc,n+1,o',h,i,hi=>by
    unfold ancs at hi ⊢
    have:=ancs_get l (acc++[(o.after.toList.filter (Region.binds .any)).foldr (fun e l=>insN e.on (unionN (acc.getD e.on []) l)) []]) n o' h i (by rw [List.length_append,List.length_singleton,Nat.add_assoc,Nat.add_comm 1 n];exact hi)
    rw [List.length_append,List.length_singleton,Nat.add_assoc,Nat.add_comm 1 n] at this
    exact this
theorem waits_in {S:Nat->Bool} (hc:∀ j o,ops[j]? = some o->S j=true -> ∀ e∈o.after.toList,Region.binds .any e=true->S e.on=true):∀ (n j:Nat),j < n -> ∀ o,ops[j]? = some o->(∀ e∈o.after.toList,Region.binds .any e=true->S e.on=true) -> ∀ i,waitsN (ancs ops.toList []) j i=true->S i=true
 | 0,j,hn,_,_,_,_,_=>by omega
 | n+1,j,hn,o,ho,hr,i,hw=>by
  have hi:i∈(ancs ops.toList []).getD (([]:List (List Nat)).length+j) []:=by
   rw [List.length_nil,Nat.zero_add];exact hasN_iff.1 hw
  obtain ⟨e,h1,h2,h3⟩:=ancs_get ops.toList [] j o (by simpa using ho) i hi
  rcases h3 with rfl | ⟨h3,h4⟩
  ·exact hr e h1 h2
  ·simp at h3
   have hlt:e.on < ops.size:=by
    have:=(Array.getElem?_eq_some_iff.1 ho).1
    omega
   exact waits_in hc n e.on (by omega) ops[e.on] (by simp [hlt]) (hc e.on ops[e.on] (by simp [hlt]) (hr e h1 h2)) i (hasN_iff.2 h4)
structure Apart (ops:Array Oper) (oi oj:Oper) (ri rj:Rec):Prop where
 looks:∀ d,oi.dst=some d->d ∉ oj.looksAt ops /\ mentP d rj.val=false /\ ∀ p∈rj.loc,mentLs d p.2=false
 back:∀ d,oj.dst=some d->d ∉ oi.looksAt ops
 keys:∀ k∈ri.keysW,k ∉ rj.keysW /\ k ∉ rj.keysR
 keysB:∀ k∈rj.keysW,k ∉ ri.keysR
 toks:∀ t∈ri.toks,t ∉ rj.toks
structure Chk (ops:Array Oper) (rs:List Rec):Prop where
 self:∀ (j:Nat) (o:Oper),ops[j]? = some o -> ∀ d,o.dst=some d->d ∉ o.looksAt ops
 on:∀ (j:Nat) (o:Oper),ops[j]? = some o -> ∀ e∈o.after.toList,Region.binds .any e=true->e.on < j
 grd:∀ (j:Nat) (o:Oper),ops[j]? = some o -> ∀ i b,o.guard=some (i,b)->waitsN (ancs ops.toList []) j i=true
 dist:∀ (i j:Nat) (oi oj:Oper),ops[i]? = some oi->ops[j]? = some oj->i≠j -> ∀ d,oi.dst=some d->oj.dst≠some d
 apart:∀ (i j:Nat) (oi oj:Oper) (ri rj:Rec),i < j->ops[i]? = some oi->ops[j]? = some oj->rs[i]? = some ri->rs[j]? = some rj->waitsN (ancs ops.toList []) j i=false->Apart ops oi oj ri rj
theorem hasN_not {l:List Nat} {x:Nat} (h:hasN l x=false):x ∉ l:=fun e=>by rw [hasN_iff.2 e] at h;cases h
theorem hasT_not {l:List Tok} {x:Tok} (h:hasT l x=false):x ∉ l:=fun e=>by rw [hasT_iff.2 e] at h;cases h
theorem okDraw_chk {rs:List Rec} (hl:rs.length=ops.size) (h:okDraw ops rs=true):Chk ops rs:=by
 simp only [okDraw,Bool.and_eq_true,List.all_eq_true,List.mem_range] at h
 have one:∀ (j:Nat) (o:Oper),ops[j]? = some o->(match o.dst with | some d=>!(hasN (o.looksAt ops) d) | none=>true)=true /\ (∀ e∈o.after.toList,(!Region.binds .any e||Nat.blt e.on j)=true) /\ (match o.guard with | some (g,_)=>waitsN (ancs ops.toList []) j g | none=>true)=true:=fun j o ho=>by
  have:=(h.2 j (Array.getElem?_eq_some_iff.1 ho).1).1
  unfold okOne at this
  simp only [ho,Bool.and_eq_true,List.all_eq_true] at this
  exact ⟨this.1.1,this.1.2,this.2⟩
 have two:∀ (i j:Nat) (oi oj:Oper) (ri rj:Rec),i < j->ops[i]? = some oi->ops[j]? = some oj->rs[i]? = some ri->rs[j]? = some rj->(match oi.dst,oj.dst with | some d,some d'=>!(Nat.beq d d') | _,_=>true)=true /\ (waitsN (ancs ops.toList []) j i=true \/ Apart ops oi oj ri rj):=fun i j oi oj ri rj hij hi hj hri hrj=>by
  have:=(h.2 j (Array.getElem?_eq_some_iff.1 hj).1).2 i hij
  unfold okTwo at this
  simp only [hi,hj,hri,hrj,Bool.and_eq_true,Bool.or_eq_true,List.all_eq_true,Bool.not_eq_true'] at this
  refine ⟨this.1,this.2.imp (fun h=>h) fun h=>?_⟩
  obtain ⟨⟨⟨⟨h1,h2⟩,h3⟩,h4⟩,h5⟩:=h
  refine ⟨fun d hd=>?_,fun d hd=>?_,fun k hk=>⟨hasN_not (h3 k hk).1,hasN_not (h3 k hk).2⟩,fun k hk=>hasN_not (h4 k hk),fun t ht=>hasT_not (h5 t ht)⟩
  ·rw [hd] at h1
   simp only [Bool.and_eq_true,Bool.not_eq_true',List.all_eq_true] at h1
   exact ⟨hasN_not h1.1.1,h1.1.2,h1.2⟩
  ·rw [hd] at h2
   simp only [Bool.not_eq_true'] at h2
   exact hasN_not h2
 have rget:∀ (j:Nat) (o:Oper),ops[j]? = some o -> ∃ rc,rs[j]? = some rc:=fun j o ho=>⟨rs[j]'(by rw [hl];exact (Array.getElem?_eq_some_iff.1 ho).1),by simp⟩
 refine ⟨fun j o ho d hd=>?_,fun j o ho e he hb=>?_,fun j o ho i b hg=>?_,fun i j oi oj hi hj hij d hd hd'=>?_,fun i j oi oj ri rj hij hi hj hri hrj hw=>?_⟩
 ·have:=(one j o ho).1
  rw [hd] at this
  simp only [Bool.not_eq_true'] at this
  exact hasN_not this
 ·have:=(one j o ho).2.1 e he
  rw [hb] at this
  simpa [Nat.blt_eq] using this
 ·have:=(one j o ho).2.2
  rw [hg] at this
  exact this
 ·obtain ⟨ri,hri⟩:=rget i oi hi
  obtain ⟨rj,hrj⟩:=rget j oj hj
  have key:∀ (i j:Nat) (oi oj:Oper) (ri rj:Rec),i < j->ops[i]? = some oi->ops[j]? = some oj->rs[i]? = some ri->rs[j]? = some rj->oi.dst=some d->oj.dst=some d->False:=fun i j oi oj ri rj hij hi hj hri hrj hd hd'=>by
   have:=(two i j oi oj ri rj hij hi hj hri hrj).1
   rw [hd,hd'] at this
   simp at this
  rcases Nat.lt_or_gt_of_ne hij with hlt | hlt
  ·exact key i j oi oj ri rj hlt hi hj hri hrj hd hd'
  ·exact key j i oj oi rj ri hlt hj hi hrj hri hd' hd
 ·rcases (two i j oi oj ri rj hij hi hj hri hrj).2 with h | h
  ·rw [h] at hw;cases hw
  ·exact h
def spOf (ops:Array Oper) (S:Nat->Bool):List Nat:=(List.range ops.size).filterMap fun i=>match S i with | true=>(ops[i]?).bind (·.dst) | false=>none
theorem mem_spOf {S:Nat->Bool} {t:Nat}:hasN (spOf ops S) t=true ↔ ∃ i o,ops[i]? = some o /\ S i=true /\ o.dst=some t:=by
 rw [hasN_iff]
 unfold spOf
 rw [List.mem_filterMap]
 constructor
 ·rintro ⟨i,h1,h2⟩
  split at h2
  ·rename_i hS
   cases ho:ops[i]? with
   | none=>rw [ho] at h2;cases h2
   | some o=>rw [ho] at h2;exact ⟨i,o,ho,hS,h2⟩
  ·cases h2
 ·rintro ⟨i,o,h1,h2,h3⟩
  refine ⟨i,List.mem_range.2 (Array.getElem?_eq_some_iff.1 h1).1,?_⟩
  rw [h2,h1]
  exact h3
theorem gslot_some {o:Oper} {t:Nat} (h:gslot ops o=some t):∃ i b og,o.guard=some (i,b) /\ ops[i]? = some og /\ og.dst=some t:=by
 unfold gslot at h
 split at h
 ·cases h
 ·rename_i i b hg
  cases ho:ops[i]? with
  | none=>rw [ho] at h;cases h
  | some og=>rw [ho] at h;exact ⟨i,b,og,hg,ho,h⟩
theorem fold_fr {S:Nat->Bool} {x:Nat}:∀ (l:List Oper) (rs:List Rec) (k:Nat) (X:PSt),hasN (fold S l rs k X).fr x=true->hasN X.fr x=true
 | [],_,_,_,h=>h
 | _::_,[],_,_,h=>h
 | o::l,rc::rs,k,X,h=>by
  unfold fold at h
  have:=fold_fr l rs (k+1) _ h
  cases hk:S k with
  | true=>rw [hk] at this;exact (hasN_out.1 this).1
  | false=>rw [hk] at this;exact this
theorem fold_out {S:Nat->Bool} {x:Nat}:∀ (l:List Oper) (rs:List Rec) (k n:Nat) (o:Oper) (rc:Rec) (X:PSt),l[n]? = some o->rs[n]? = some rc->S (k+n)=true->o.dst=some x->hasN (fold S l rs k X).fr x=false
 | [],_,_,_,_,_,_,h,_,_,_=>by simp at h
 | _::_,[],_,_,_,_,_,_,h,_,_=>by simp at h
 | o::l,rc::rs,k,0,o',rc',X,h1,h2,h3,h4=>by
  cases h1
  refine Bool.eq_false_iff.2 fun h=>?_
  unfold fold at h
  have h3:S k=true:=h3
  have:=fold_fr l rs (k+1) _ h
  rw [h3] at this
  exact (hasN_out.1 this).2 h4
 | o::l,rc::rs,k,n+1,o',rc',X,h1,h2,h3,h4=>by
  unfold fold
  exact fold_out l rs (k+1) n o' rc' _ h1 h2 (by rw [<-h3];congr 1;omega) h4
def mkSt (ops:Array Oper) (S:Nat->Bool) (rs:List Rec) (st0:PSt):PSt:=⟨(fold S ops.toList rs 0 st0).φ,(fold S ops.toList rs 0 st0).L,(fold S ops.toList rs 0 st0).O,[],spOf ops S,(fold S ops.toList rs 0 st0).fr⟩
theorem knows_filter {A:Nat->Bool} {kn:List (Nat×Bool)} {t:Nat}:knows (kn.filter fun p=>A p.1) t=match A t with | true=>knows kn t | false=>none:=by
 induction kn with
 | nil=>cases A t <;> rfl
 | cons p r ih=>
  obtain ⟨j,b⟩:=p
  by_cases hj:j=t
  ·subst hj
   cases hA:A j with
   | true=>rw [List.filter_cons_of_pos (by simpa using hA)];simp [knows]
   | false=>rw [List.filter_cons_of_neg (by simp [hA]),ih,hA]
  ·have hb:Nat.beq j t=false:=Bool.eq_false_iff.2 fun e=>hj (Nat.eq_of_beq_eq_true e)
   cases hA:A j with
   | true=>
    rw [List.filter_cons_of_pos (by simpa using hA)]
    simp only [knows,hb]
    exact ih
   | false=>
    rw [List.filter_cons_of_neg (by simp [hA]),ih]
    simp only [knows,hb]
open Classical in
theorem draw_step (hE:E.okF F) {rs:List Rec} {st0 s:PSt} (hrun:Run E ops ops.toList st0 rs s) (hc:Chk ops rs) (hst0:∀ i t want ag ls,st0.φ i≠.spec t want ag ls) (hkn0:st0.kn=[]) {S S':Nat->Bool} {j:Nat} {oj:Oper} {a:Act} (hj:S j=false) (hS':∀ i,S' i=true↔S i=true \/ i=j)
    (hcl:∀ j o,ops[j]? = some o->S j=true -> ∀ e∈o.after.toList,Region.binds .any e=true->S e.on=true) (hoj:ops[j]? = some oj) (hready:∀ e∈oj.after.toList,Region.binds .any e=true->S e.on=true) (hd:∀ x,oj.dst=some x->x < F.n)
    (h:AR F g (mkSt ops S rs st0) a w) {N:Act->World->Prop} {Q:Exit->Act->World->Prop} (hN:∀ a' w' g',AR F g' (mkSt ops S' rs st0) a' w'->Fr1 oj.dst g a w g' a' w'->N a' w'):Way E ops oj a w N Q:=by
  obtain ⟨rc,sj,sj',hrc,hstep,hlike,hknok⟩:=hrun.at 0 j oj (by simpa using hoj)
  simp only [Nat.zero_add] at hlike
  have hok:=pvStep_ok hstep
  have hdone:∀ i,waitsN (ancs ops.toList []) j i=true->S i=true:=waits_in hcl (j+1) j (by omega) oj hoj hready
  have hnot:∀ i o,ops[i]? = some o->S i=true->waitsN (ancs ops.toList []) i j=false:=fun i o ho hi=>Bool.eq_false_iff.2 fun e=>by
    have:=waits_in hcl (i+1) i (by omega) o ho (hcl i o ho hi) j e
    rw [hj] at this;cases this
  have hcmp:∀ i oi ri,ops[i]? = some oi->rs[i]? = some ri->S i≠decide (i < j)->(i < j /\ S i=false /\ Apart ops oi oj ri rc) \/ (j < i /\ S i=true /\ Apart ops oj oi rc ri):=fun i oi ri hoi hri hne=>by
    rcases Nat.lt_trichotomy i j with hlt | heq | hgt
    · rw [decide_eq_true hlt] at hne
      have hSi:S i=false:=by simpa using hne
      exact .inl ⟨hlt,hSi,hc.apart i j oi oj ri rc hlt hoi hoj hri hrc (Bool.eq_false_iff.2 fun e=>hne (hdone i e))⟩
    · subst heq
      rw [hj] at hne;simp at hne
    · rw [decide_eq_false (by omega)] at hne
      have hSi:S i=true:=by simpa using hne
      exact .inr ⟨hgt,hSi,hc.apart j i oj oi rc ri hgt hoj hoi hrc hri (hnot i oi hoi hSi)⟩
  have hφS:∀ t,(∀ i oi,ops[i]? = some oi->oi.dst=some t->S i=decide (i < j))->(fold S ops.toList rs 0 st0).φ t=sj.φ t:=fun t ht=>by
    rw [hlike.1]
    refine fold_agree (view_φ t) ops.toList rs 0 _ _ rfl fun i o ri h1 h2=>?_
    rw [Nat.zero_add]
    by_cases e:o.dst=some t
    · exact .inl (ht i o (by simpa using h1) e)
    · exact .inr e
  have hLS:∀ k,k∈rc.keysR \/ k∈rc.keysW->(fold S ops.toList rs 0 st0).L k=sj.L k:=fun k hk=>by
    rw [hlike.2.1]
    refine fold_agree (view_L k) ops.toList rs 0 _ _ rfl fun i o ri h1 h2=>?_
    rw [Nat.zero_add]
    by_cases e:S i=decide (i < j)
    · exact .inl e
    · refine .inr fun hkw=>?_
      rcases hcmp i o ri (by simpa using h1) h2 e with ⟨_,_,ha⟩ | ⟨_,_,ha⟩
      · have:=ha.keys k hkw
        rcases hk with hk | hk
        · exact this.2 hk
        · exact this.1 hk
      · rcases hk with hk | hk
        · exact ha.keysB k hkw hk
        · exact (ha.keys k hk).1 hkw
  have hrec:∀ (i:Nat) (o:Oper) (ri:Rec),ops[i]? = some o->rs[i]? = some ri->Tok.zero ∉ ri.born /\ Tok.zero ∉ ri.gone:=fun i o ri h1 h2=>by
    obtain ⟨ri',si,si',g1,g2,_,_⟩:=hrun.at 0 i o (by simpa using h1)
    rw [h2] at g1;cases g1
    have:=pvStep_ok g2
    exact ⟨fun e=>(by obtain ⟨x,j,e',_⟩:=this.born _ e;cases e'),fun e=>this.gone _ e rfl⟩
  have hOS:∀ t,t=.zero \/ t∈rc.toks->(fold S ops.toList rs 0 st0).O t=sj.O t:=fun t ht=>by
    rw [hlike.2.2.1]
    refine fold_agree (view_O t) ops.toList rs 0 _ _ rfl fun i o ri h1 h2=>?_
    rw [Nat.zero_add]
    by_cases e:S i=decide (i < j)
    · exact .inl e
    · refine .inr fun hbg=>?_
      rcases ht with rfl | ht
      · have:=hrec i o ri (by simpa using h1) h2
        rcases hbg with hbg | hbg
        · exact this.1 hbg
        · exact this.2 hbg
      · have hm : t ∈ ri.toks := by
          unfold Rec.toks
          rcases hbg with hbg | hbg <;> simp [hbg]
        rcases hcmp i o ri (by simpa using h1) h2 e with ⟨_,_,ha⟩ | ⟨_,_,ha⟩
        · exact ha.toks t hm ht
        · exact ha.toks t ht hm
  have hfrS:∀ x,(∀ i oi,ops[i]? = some oi->oi.dst=some x->S i=decide (i < j))->hasN (fold S ops.toList rs 0 st0).fr x=hasN sj.fr x:=fun x hx=>by
    rw [hlike.2.2.2]
    refine fold_agree (view_fr x) ops.toList rs 0 _ _ rfl fun i o ri h1 h2=>?_
    rw [Nat.zero_add]
    by_cases e:o.dst=some x
    · exact .inl (hx i o (by simpa using h1) e)
    · exact .inr e
  have hself:∀ x,oj.dst=some x -> ∀ i oi,ops[i]? = some oi->oi.dst=some x->S i=decide (i < j):=fun x hx i oi hoi hdi=>by
    have e:i=j:=by
      by_cases e:i=j
      · exact e
      · exact (hc.dist i j oi oj hoi hoj e x hdi hx).elim
    subst e
    rw [hj];simp
  let A:Nat->Prop:=fun t=>(∀ i oi,ops[i]? = some oi->oi.dst=some t->S i=decide (i < j)) /\ oj.dst≠some t
  have hAcl:∀ t,A t -> ∀ j' w ag ls,sj.φ t=.spec j' w ag ls->A j':=fun t ht j' want ag ls hs=>by
    rw [hlike.1] at hs
    by_cases hex:∃ i oi,ops[i]? = some oi /\ oi.dst=some t /\ i < j
    · obtain ⟨i,oi,hoi,hdi,hij⟩:=hex
      obtain ⟨ri,si,si',g1,g2,g3,_⟩:=hrun.at 0 i oi (by simpa using hoi)
      have hoki:=pvStep_ok g2
      have e:(fold (fun i=>decide (i < j)) ops.toList rs 0 st0).φ t=ri.val:=by
        have:=fold_add (view_φ t) (S:=fun k=>decide (k < j)&&decide (k≠i)) (S':=fun k=>decide (k < j)) (j:=i) (oj:=oi) (rj:=ri) (by simp) (by simpa using hij) (fun k hk=>by simp [hk]) ops.toList rs 0 i st0 (by omega) (by simpa using hoi) g1 (fun _ k ok rk hk h1 h2 h3 h4=>hc.dist i k oi ok hoi (by simpa using h1) (by omega) t hdi h4)
        rw [this]
        show putP _ oi.dst ri.val t=_
        rw [hdi,putP_at]
      rw [e] at hs
      obtain ⟨hgs,_⟩:=hoki.spec j' want ag ls hs
      obtain ⟨i0,b0,og,q1,q2,q3⟩:=gslot_some hgs
      have hSi:S i=true:=by rw [ht.1 i oi hoi hdi];simpa using hij
      have hw0:=hc.grd i oi hoi i0 b0 q1
      have hS0:S i0=true:=waits_in hcl (i+1) i (by omega) oi hoi (hcl i oi hoi hSi) i0 hw0
      have hi0:i0 < i:=by
        refine waits_in (S:=fun k=>decide (k < i)) (fun k ok hk1 hk2 e he1 he2=>?_) (i+1) i (by omega) oi hoi (fun e he1 he2=>?_) i0 hw0 |> fun h=>by simpa using h
        · have:=hc.on k ok hk1 e he1 he2
          simp at hk2 ⊢;omega
        · have:=hc.on i oi hoi e he1 he2
          simpa using this
      refine ⟨fun k ok hok hdk=>?_,fun e=>?_⟩
      · have : k = i0 := by
          by_cases e:k=i0
          · exact e
          · exact (hc.dist k i0 ok og hok q2 e j' hdk q3).elim
        subst this
        rw [hS0,decide_eq_true (by omega)]
      · exact hc.dist i0 j og oj q2 hoj (by omega) j' q3 e
    · exfalso
      have e:(fold (fun i=>decide (i < j)) ops.toList rs 0 st0).φ t=st0.φ t:=fold_keep (view_φ t) ops.toList rs 0 st0 fun i o ri h1 h2 h3 h4=>hex ⟨i,o,by simpa using h1,h4,by simpa using h3⟩
      rw [e] at hs
      exact hst0 t j' want ag ls hs
  have hlooks:∀ t,t∈oj.looksAt ops->A t:=fun t ht=>by
    refine ⟨fun i oi hoi hdi=>?_,fun e=>hc.self j oj hoj t e ht⟩
    by_cases e:S i=decide (i < j)
    · exact e
    · exfalso
      obtain ⟨ri,si,si',g1,g2,g3,_⟩:=hrun.at 0 i oi (by simpa using hoi)
      rcases hcmp i oi ri hoi g1 e with ⟨_,_,ha⟩ | ⟨_,_,ha⟩
      · exact (ha.looks t hdi).1 ht
      · exact ha.back t hdi ht
  have hmem:∀ t,hasN (spOf ops S) t=true->oj.dst≠some t:=fun t ht e=>by
    obtain ⟨i,o,h1,h2,h3⟩:=mem_spOf.1 ht
    have:=hself t e i o h1 h3
    rw [h2] at this
    have hij:i < j:=by simpa using this.symm
    exact hc.dist i j o oj h1 hoj (by omega) t h3 e
  have hM:MRel F g ⟨(fold S ops.toList rs 0 st0).φ,(fold S ops.toList rs 0 st0).L,(fold S ops.toList rs 0 st0).O,sj.kn.filter (fun p=>decide (A p.1)),spOf ops S,(fold S ops.toList rs 0 st0).fr⟩ (tm a) w:=by
    refine h.rel.knMore (st:=mkSt ops S rs st0) fun t b hk=>?_
    rw [knows_filter (A:=fun t=>decide (A t))] at hk
    split at hk
    · rename_i hA
      exact facts (A:=A) (X:=mkSt ops S rs st0) (φ:=sj.φ) h.rel.slots (fun t ht=>hφS t ht.1) hAcl (hknok (by rw [hkn0];exact .nil)) t b (of_decide_eq_true hA) hk
    · cases hk
  have hF:Foot oj.dst rc sj ⟨(fold S ops.toList rs 0 st0).φ,(fold S ops.toList rs 0 st0).L,(fold S ops.toList rs 0 st0).O,sj.kn.filter (fun p=>decide (A p.1)),spOf ops S,(fold S ops.toList rs 0 st0).fr⟩:=by
    refine ⟨hLS,fun t ht=>hOS t (.inr ?_),hOS _ (.inl rfl),fun x hx=>hfrS x (hself x hx),fun x hx=>Bool.eq_false_iff.2 fun e=>hmem x e hx,fun x hx=>?_⟩
    · unfold Rec.toks
      simp [ht]
    · obtain ⟨hx1,hx2⟩:=hasN_out.1 (hasN_iff.2 hx)
      by_cases hex:∃ i oi,ops[i]? = some oi /\ oi.dst=some x /\ i < j /\ S i=false
      · obtain ⟨i,oi,hoi,hdi,hij,hSi⟩:=hex
        obtain ⟨ri,si,si',g1,g2,g3,_⟩:=hrun.at 0 i oi (by simpa using hoi)
        rcases hcmp i oi ri hoi g1 (by rw [hSi,decide_eq_true hij];simp) with ⟨_,_,ha⟩ | ⟨h1,_,ha⟩
        · exact (ha.looks x hdi).2
        · omega
      · refine hok.ment x (hasN_iff.1 (hasN_out.2 ⟨?_,hx2⟩))
        rw [<-hfrS x fun i oi hoi hdi=>?_]
        · exact hx1
        · rcases Nat.lt_trichotomy i j with hlt | heq | hgt
          · rw [decide_eq_true hlt]
            cases hSi:S i with
            | true=>rfl
            | false=>exact (hex ⟨i,oi,hoi,hdi,hlt,hSi⟩).elim
          · subst heq
            rw [hj];simp
          · rw [decide_eq_false (by omega)]
            cases hSi:S i with
            | false=>rfl
            | true=>
              obtain ⟨ri,si,si',g1,g2,g3,_⟩:=hrun.at 0 i oi (by simpa using hoi)
              have:=fold_out (S:=S) ops.toList rs 0 i oi ri st0 (by simpa using hoi) g1 (by rw [Nat.zero_add];exact hSi) hdi
              rw [show hasN (fold S ops.toList rs 0 st0).fr x=true from hx1] at this
              cases this
  obtain ⟨s',g1,g2,g3⟩:=pvStep_at (A:=A) (X:=⟨(fold S ops.toList rs 0 st0).φ,(fold S ops.toList rs 0 st0).L,(fold S ops.toList rs 0 st0).O,sj.kn.filter (fun p=>decide (A p.1)),spOf ops S,(fold S ops.toList rs 0 st0).fr⟩) ⟨fun t ht=>hφS t ht.1,fun t ht=>by rw [knows_filter (A:=fun t=>decide (A t)),decide_eq_true ht],hAcl⟩ hlooks (fun x hx=>⟨by rw [knows_filter (A:=fun t=>decide (A t)),decide_eq_false fun h=>h.2 hx],fun h=>h.2 hx⟩) hF hstep
  refine pvStep_sound (Q:=Q) hE ⟨h.size,h.defers,hM⟩ hd g1 fun a' w' g' rc' st' hC hAR hl=>?_
  injection hC with hC
  obtain ⟨e1,e2⟩:=Prod.mk.inj hC
  have e1:=e1.symm
  have e2:=e2.symm
  subst e1;subst e2
  refine hN a' w' g' ⟨hAR.size,hAR.defers,?_⟩ hl
  have hj':S' j=true:=(hS' j).2 (.inr rfl)
  have hSS:∀ i,i≠j->S' i=S i:=fun i hi=>by
    rw [Bool.eq_iff_iff,hS']
    exact ⟨fun h=>h.resolve_right hi,.inl⟩
  have hadd:∀ {β:Type} {f:PSt->β} {T:Option Nat->Rec->Prop},View f T->(T oj.dst rc -> ∀ i o ri,j < i->ops[i]? = some o->rs[i]? = some ri->S i=true -> ¬ T o.dst ri)->f (fold S' ops.toList rs 0 st0)=f (appR oj.dst rc (fold S ops.toList rs 0 st0)):=fun hf hT=>
    fold_add hf hj hj' hSS ops.toList rs 0 j st0 (by omega) (by simpa using hoj) hrc fun ht i o ri h1 h2 h3 h4=>hT ht i o ri h1 (by simpa using h2) h3 (by rw [Nat.zero_add] at h4;exact h4)
  have hap:∀ i o ri,j < i->ops[i]? = some o->rs[i]? = some ri->S i=true->Apart ops oj o rc ri:=fun i o ri h1 h2 h3 h4=>hc.apart j i oj o rc ri h1 hoj h2 hrc h3 (hnot i o h2 h4)
  have f1:∀ t,(fold S' ops.toList rs 0 st0).φ t=putP (fold S ops.toList rs 0 st0).φ oj.dst rc.val t:=fun t=>hadd (view_φ t) fun ht i o ri h1 h2 h3 h4 h5=>hc.dist j i oj o hoj h2 (by omega) t ht h5
  have f2:∀ k,(fold S' ops.toList rs 0 st0).L k=putL (fold S ops.toList rs 0 st0).L rc.loc k:=fun k=>hadd (view_L k) fun ht i o ri h1 h2 h3 h4 h5=>((hap i o ri h1 h2 h3 h4).keys k ht).1 h5
  have f3:∀ t,(fold S' ops.toList rs 0 st0).O t=putO (fold S ops.toList rs 0 st0).O rc.born rc.gone t:=fun t=>hadd (view_O t) fun ht i o ri h1 h2 h3 h4 h5=>(hap i o ri h1 h2 h3 h4).toks t (by unfold Rec.toks;rcases ht with ht | ht <;> simp [ht]) (by unfold Rec.toks;rcases h5 with h5 | h5 <;> simp [h5])
  have f4:∀ x,hasN (fold S' ops.toList rs 0 st0).fr x=hasN (outN oj.dst (fold S ops.toList rs 0 st0).fr) x:=fun x=>hadd (view_fr x) fun ht i o ri h1 h2 h3 h4 h5=>hc.dist j i oj o hoj h2 (by omega) x ht h5
  refine hAR.rel.relike (g2.1.trans (funext fun t=>(f1 t).symm)) (g2.2.1.trans (funext fun t=>(f2 t).symm)) (g2.2.2.1.trans (funext fun t=>(f3 t).symm)) (fun x hx=>?_) (fun i t want ag ls hs=>?_) fun t b hk=>by cases hk
  · rw [g2.2.2.2 x]
    have hx':hasN (fold S' ops.toList rs 0 st0).fr x=true:=hx
    rw [f4 x] at hx'
    exact hx'
  · have hs':(fold S' ops.toList rs 0 st0).φ i=.spec t want ag ls:=hs
    rw [f1 i] at hs'
    have hst:s'.φ i=.spec t want ag ls:=by rw [g2.1];exact hs'
    have hsp:=hAR.rel.sp i t want ag ls hst
    show hasN (spOf ops S') t=true
    rcases g3 t hsp with h1 | h1
    · obtain ⟨i,o,q1,q2,q3⟩:=mem_spOf.1 (show hasN (spOf ops S) t=true from h1)
      exact mem_spOf.2 ⟨i,o,q1,(hS' i).2 (.inl q2),q3⟩
    · obtain ⟨i0,b0,og,q1,q2,q3⟩:=gslot_some h1
      exact mem_spOf.2 ⟨i0,og,q2,(hS' i0).2 (.inl (hdone i0 (hc.grd j oj hoj i0 b0 q1))),q3⟩
end
section
variable {E : Env} {F : Fr} {R : Type} {r : R}
section
variable {ops : Array Oper} {listed : Array Bool}
theorem getD_tf (i:Nat) (hi:i < listed.size):listed.getD i true=listed.getD i false:=by
 rw [Array.getD_eq_getD_getElem?,Array.getD_eq_getD_getElem?]
 simp [hi]
theorem ready_mem {i:Nat}:i∈Region.ready .any ops listed↔i < ops.size /\ listed.getD i true=false /\ ∃ o,ops[i]? = some o /\ ∀ e∈o.after.toList,Region.binds .any e=true->listed.getD e.on false=true:=by
 unfold Region.ready
 rw [List.mem_filter,List.mem_range]
 refine and_congr_right fun hi=>?_
 rw [Bool.and_eq_true,Bool.not_eq_true']
 refine and_congr_right fun _=>?_
 have ho:ops[i]? = some ops[i]:=by simp [hi]
 rw [ho]
 rw [Option.map_some,Option.getD_some,<- Array.all_toList,List.all_eq_true]
 constructor
 ·intro h
  refine ⟨_,rfl,fun e he hb=>?_⟩
  have:=h e he
  rw [hb] at this
  simpa using this
 ·rintro ⟨o,h1,h2⟩ e he
  injection h1 with h1
  subst h1
  cases hb:Region.binds .any e with
  | false=>rfl
  | true=>simpa using h2 e he hb
theorem ready_nil {rs:List Rec} (hc:Chk ops rs) (hs:listed.size=ops.size) (h:Region.ready .any ops listed=[]):∀ (n j:Nat),j < n->j < ops.size->listed.getD j false=true
 | 0,_,hn,_=>by omega
 | n+1,j,hn,hj=>by
  cases hl:listed.getD j false with
  | true=>rfl
  | false=>
   exfalso
   have ho:ops[j]? = some ops[j]:=by simp [hj]
   have:j∈Region.ready .any ops listed:=ready_mem.2 ⟨hj,by rw [getD_tf j (by omega)];exact hl,_,ho,fun e he hb=>by
    have hlt:=hc.on j _ ho e he hb
    exact ready_nil hc hs h n e.on (by omega) (by omega)⟩
   rw [h] at this
   cases this
theorem setB_get {i k:Nat} (hi:i < listed.size):(listed.setIfInBounds i true).getD k false=true↔listed.getD k false=true \/ k=i:=by
 rw [Array.getD_eq_getD_getElem?,Array.getD_eq_getD_getElem?,Array.getElem?_setIfInBounds]
 by_cases e:i=k
 ·subst e
  simp [hi]
 ·rw [if_neg e]
  exact ⟨.inl,fun h=>h.resolve_right fun e'=>e e'.symm⟩
end
theorem draw_walk (hE:E.okF F) {ops:Array Oper} {M:Nat->Prop} {g0:Gh} {a0:Act} {w0:World} {Q:Exit->Act->World->Prop} (hd:∀ o∈ops.toList,∀ x,o.dst=some x->x < F.n /\ M x) {rs:List Rec} {st0 s:PSt} (hrun:Run E ops ops.toList st0 rs s) (hc:Chk ops rs) (hst0:∀ i t want ag ls,st0.φ i≠.spec t want ag ls) (hkn0:st0.kn=[])
    (hQ:∀ S a' w' g',(∀ i,i < ops.size->S i=true)->AR F g' (mkSt ops S rs st0) a' w'->Lft M (fun _=>False) g0 a0 w0 g' a' w'->Q .normal a' w'):∀ (fuel:Nat) (U:List Nat) (listed:Array Bool) (g:Gh) (a:Act) (w:World),U.length<=fuel->listed.size=ops.size->(∀ i,i < ops.size->listed.getD i false=false->i∈U) ->
    (∀ j o,ops[j]? = some o->listed.getD j false=true -> ∀ e∈o.after.toList,Region.binds .any e=true->listed.getD e.on false=true)->AR F g (mkSt ops (fun i=>listed.getD i false) rs st0) a w->Lft M (fun _=>False) g0 a0 w0 g a w->wpAny E.P .any ops Q fuel listed a w
  | 0,U,listed,g,a,w,hU,hs,hm,hcl,h,hl=>by
    have hall:∀ i,i < ops.size->listed.getD i false=true:=fun i hi=>by
      cases e:listed.getD i false with
      | true=>rfl
      | false=>
        have:=hm i hi e
        have hU:U=[]:=List.eq_nil_of_length_eq_zero (by omega)
        rw [hU] at this
        cases this
    refine wpAny_done ?_ (hQ _ a w g hall h hl) 0
    refine List.eq_nil_iff_forall_not_mem.2 fun i hi=>?_
    obtain ⟨h1,h2,_⟩:=ready_mem.1 hi
    rw [getD_tf i (by omega),hall i h1] at h2
    cases h2
  | fuel+1,U,listed,g,a,w,hU,hs,hm,hcl,h,hl=>by
    refine ⟨fun hr=>hQ _ a w g (fun i hi=>ready_nil hc hs hr (i+1) i (by omega) hi) h hl,fun i hi=>?_⟩
    obtain ⟨h1,h2,o,ho,h3⟩:=ready_mem.1 hi
    have hS:listed.getD i false=false:=by rw [<-getD_tf i (by omega)];exact h2
    have hmem:o∈ops.toList:=List.mem_of_getElem? (i:=i) (by simpa using ho)
    have hw:Way E ops o a w (wpAny E.P .any ops Q fuel (listed.setIfInBounds i true)) Q:=
      draw_step hE hrun hc hst0 hkn0 (S:=fun i=>listed.getD i false) (S':=fun k=>(listed.setIfInBounds i true).getD k false) (j:=i) hS (fun k=>setB_get (by omega)) hcl ho h3 (fun x hx=>(hd o hmem x hx).1) h fun a' w' g' h' hl'=>by
        refine draw_walk hE hd hrun hc hst0 hkn0 hQ fuel (U.erase i) (listed.setIfInBounds i true) g' a' w' ?_ (by simpa using hs) (fun k hk hk'=>?_) (fun k ok hk hk' e he hb=>?_) h' (hl.trans (hl'.mono (fun x hx=>(hd o hmem x hx).2) fun _ h=>h))
        · have:=List.length_erase_of_mem (hm i h1 hS)
          omega
        · have hne : k ≠ i := fun e => by
            have:=(setB_get (listed:=listed) (i:=i) (k:=k) (by omega)).2 (.inr e)
            rw [this] at hk'
            cases hk'
          refine (List.mem_erase_of_ne hne).2 (hm k hk (Bool.eq_false_iff.2 fun e=>?_))
          have:=(setB_get (listed:=listed) (i:=i) (k:=k) (by omega)).2 (.inl e)
          rw [this] at hk'
          cases hk'
        · refine (setB_get (by omega)).2 (.inl ?_)
          rcases (setB_get (by omega)).1 hk' with h4 | h4
          · exact hcl k ok hk h4 e he hb
          · subst h4
            rw [ho] at hk
            cases hk
            exact h3 e he hb
    unfold wpOp
    rw [ho]
    show if Region.wanted o (yielded ops a.tmps) then _ else _
    unfold Way at hw
    split
    · rename_i hy
      rw [if_pos hy] at hw
      exact .inl hw
    · rename_i hy
      rw [if_neg hy] at hw
      exact hw
theorem draw_sound (hE:E.okF F) {id:Nat} {ops:Array Oper} {M:Nat->Prop} {g:Gh} {st:PSt} {a:Act} {w:World} {K:PSt->Option R} {Q:Exit->Act->World->Prop} (hd:∀ o∈ops.toList,∀ x,o.dst=some x->x < F.n /\ M x)
    (h:AR F g (sanSt (madeBy ops.toList) st) a w) (hv:pvOps E ops ops.toList [] (sanSt (madeBy ops.toList) st) (fun tr s=>match E.P.follows .mixedOrders&&okDraw ops tr with | true=>K s | false=>none)=some r)
    (hQ:∀ a' w' g' st',K st'=some r->AR F g' st' a' w'->Lft M (fun _=>False) g a w g' a' w'->Q .normal a' w'):(Code.region id ops true).wp E.P Q a w:=by
  obtain ⟨rs,s,hC,hrun⟩:=pvOps_run _ _ _ _ hv
  rw [List.nil_append] at hC
  split at hC
  · rename_i hb
    rw [Bool.and_eq_true] at hb
    have hc:=okDraw_chk (by rw [hrun.len];simp) hb.2
    have hst0:∀ i t want ag ls,(sanSt (madeBy ops.toList) st).φ i≠.spec t want ag ls:=fun i t want ag ls e=>by
      have e:sanP (madeBy ops.toList) (st.φ i)=.spec t want ag ls:=e
      unfold sanP at e
      split at e
      · cases e
      · cases e
      · split at e <;> cases e
      · split at e <;> cases e
      · split at e <;> cases e
      · cases e
      · cases e
      · cases e
      · cases e
    refine wp_region_any hb.1 (draw_walk hE (g0:=g) (a0:=a) (w0:=w) hd hrun hc hst0 rfl (fun S a' w' g' hall hAR hl=>?_) ops.size (List.range ops.size) (Array.replicate ops.size false) g a _ (by simp) (by simp) (fun i hi _=>List.mem_range.2 hi) (fun j o ho hj=>?_) ?_ ?_)
    · obtain ⟨g1,g2,g3⟩:=hrun.last 0
      have hlk:Like s (fold S ops.toList rs 0 (sanSt (madeBy ops.toList) st)):=g1.trans (fold_like (like_refl _) fun i hi=>by rw [Nat.zero_add,hall i (by simpa using hi)])
      refine hQ a' w' g' s hC ⟨hAR.size,hAR.defers,?_⟩ hl
      refine hAR.rel.relike (X:=s) hlk.1.symm hlk.2.1.symm hlk.2.2.1.symm (fun x hx=>?_) (g3 fun i t want ag ls hs=>(hst0 i t want ag ls hs).elim) fun t b hk=>?_
      · show hasN (fold S ops.toList rs 0 (sanSt (madeBy ops.toList) st)).fr x=true
        rw [<-hlk.2.2.2 x];exact hx
      · exact facts (A:=fun _=>True) (X:=mkSt ops S rs (sanSt (madeBy ops.toList) st)) (φ:=s.φ) hAR.rel.slots (fun t _=>by rw [hlk.1];rfl) (fun _ _ _ _ _ _ _=>trivial) (g2 .nil) t b trivial hk
    · exfalso
      rw [Array.getD_eq_getD_getElem?] at hj
      by_cases hlt:j < ops.size <;> simp [hlt] at hj
    · have e : fold (fun i => (Array.replicate ops.size false).getD i false) ops.toList rs 0 (sanSt (madeBy ops.toList) st) = sanSt (madeBy ops.toList) st := fold_none _ _ _ _ fun i _ => by
        rw [Array.getD_eq_getD_getElem?]
        by_cases hlt:i < ops.size <;> simp [hlt]
      refine ⟨h.size,h.defers,h.rel.drew.relike (by unfold mkSt;rw [e]) (by unfold mkSt;rw [e]) (by unfold mkSt;rw [e]) (fun x hx=>?_) (fun i t want ag ls hs=>?_) fun t b hk=>by cases hk⟩
      · unfold mkSt at hx
        rw [e] at hx
        exact hx
      · unfold mkSt at hs
        rw [e] at hs
        exact (hst0 i t want ag ls hs).elim
    · exact ⟨fun _ _=>rfl,fun _ _=>rfl,fun a u hc hC=>⟨hc,hC⟩,fun _ _ _ _=>rfl⟩
  · cases hC
end
section
variable {E : Env} {F : Fr} {g g' g1 : Gh} {st st' s : PSt} {a a' : Act} {w w' : World}
def Xt.out:Xt->Exit
 | .normal=>.normal
 | .exit id=>.exit id
 | .ret=>.ret
 | .goto l=>.goto l
theorem stamp_rel {tmf:Nat->Value} (n:Ann) (h:MRel F g st tmf w):∃ g',MRel F g' (stampSt n st) tmf w /\ g'.C=g.C /\ g'.ρ=g.ρ /\ (∀ k σ,σ≠n.id->g'.H k σ=g.H k σ) /\ ∀ k ls,keptL n st k=some (n.id,ls)->g'.H k n.id=ls:=by
  let g':Gh:=⟨g.C,g.blk,g.ρ,fun k σ=>match Nat.beq σ n.id with | true=>(match keptL n st k with | some (_,ls)=>ls | none=>g.H k σ) | false=>g.H k σ⟩
  have hH:∀ k ls,keptL n st k=some (n.id,ls)->g'.H k n.id=ls:=fun k ls hk=>by
    show (match Nat.beq n.id n.id with | true=>(match keptL n st k with | some (_,ls)=>ls | none=>g.H k n.id) | false=>g.H k n.id)=ls
    rw [show Nat.beq n.id n.id=true by simp,hk]
  have Lc:∀ k σ ls,(stampSt n st).L k=some (σ,ls)->(keptL n st k=some (σ,ls) /\ σ=n.id /\ ∃ σ0 l0,st.L k=some (σ0,l0) /\ ls=l0.map unown) \/ (keptL n st k=none /\ st.L k=some (σ,ls)):=fun k σ ls hL=>by
    have hL':(match keptL n st k with | some x=>some x | none=>st.L k)=some (σ,ls):=hL
    split at hL'
    · rename_i x hx
      rw [hL'] at hx
      obtain ⟨e1,_,σ0,l0,e3,e4⟩:=keptL_some hx
      exact .inl ⟨hx,e1,σ0,l0,e3,e4⟩
    · rename_i hx
      exact .inr ⟨hx,hL'⟩
  have Ls:∀ k y,(stampSt n st).L k=some y -> ∃ z,st.L k=some z:=fun k y hy=>by
    rcases Lc k y.1 y.2 hy with ⟨_,_,σ0,l0,h0,_⟩ | ⟨_,h0⟩ <;> exact ⟨_,h0⟩
  refine ⟨g',⟨h.fr,fun i=>?_,fun k σ ls hL=>?_,fun k σ ls hL hσ=>?_,h.kn,h.sp,fun d hd=>?_,fun i k hk=>?_,h.blk0,h.blkI,fun k b j x hk hb hL=>?_,h.blkS,h.blkW,fun j j' x x' hj hj' he=>?_⟩,rfl,rfl,fun k σ hne=>?_,hH⟩
  · exact (h.slots i).gw (g':=g') (Gw.refl w g.C) (fun k _ ho=>⟨ho,rfl,fun b _=>⟨rfl,fun _=>Iff.rfl⟩⟩) (fun _ _=>rfl) (fun _ _ _ _ _=>rfl)
  · have gwl : ∀ ls, LocOk F g w st.O ls (g.ρ k) -> LocOk F g' w st.O ls (g'.ρ k) := fun ls hl => by
      obtain ⟨cur,T,c1,c2,c3,c4⟩:=hl
      exact ⟨cur,T,c1,c2,c3.gw (g':=g') (Gw.refl w g.C) fun k E e x _ ho=>⟨ho,rfl,fun b _=>⟨rfl,fun _=>Iff.rfl⟩⟩,c4⟩
    rcases Lc k σ ls hL with ⟨_,_,σ0,l0,h0,rfl⟩ | ⟨_,h0⟩
    · exact gwl _ (LocOk.less unown_less (h.locals k σ0 l0 h0))
    · exact gwl _ (h.locals k σ ls h0)
  · rcases Lc k σ ls hL with ⟨hk,e,σ0,l0,h0,rfl⟩ | ⟨hk,h0⟩
    · subst e
      exact ⟨hH k _ hk,fun l hl=>by obtain ⟨z,_,rfl⟩:=List.mem_map.1 hl;exact unown_D z⟩
    · obtain ⟨q1,q2⟩:=h.hist k σ ls h0 hσ
      refine ⟨?_,q2⟩
      show (match Nat.beq σ n.id with | true=>(match keptL n st k with | some (_,ls)=>ls | none=>g.H k σ) | false=>g.H k σ)=ls
      rw [hk]
      cases Nat.beq σ n.id <;> exact q1
  · obtain ⟨f1,f2,f3,f4⟩:=h.fresh d hd
    refine ⟨f1,fun k σ ls hL=>?_,f3,?_⟩
    · rcases Lc k σ ls hL with ⟨_,_,σ0,l0,h0,rfl⟩ | ⟨_,h0⟩
      · have hgen : ∀ q : List Leaf, mentLs d (q.map unown) = false := by
          intro q
          induction q with
          | nil=>rfl
          | cons y q ih=>
            show (mentL d (unown y)||mentLs d (q.map unown))=false
            rw [ih]
            cases y <;> rfl
        exact hgen l0
      · exact f2 k σ ls h0
    · show (match keptL n st d with | some x=>some x | none=>st.L d)=none
      have:keptL n st d=none:=by
        unfold keptL
        rw [f4]
        cases hasN n.kept d <;> rfl
      rw [this];exact f4
  · have:=h.locL i k hk
    show (match keptL n st k with | some x=>some x | none=>st.L k).isSome=true
    cases keptL n st k with
    | some x=>rfl
    | none=>exact this
  · obtain ⟨z,hz⟩:=Ls j x hL
    exact h.blkL k b j z hk hb hz
  · obtain ⟨z,hz⟩:=Ls j x hj
    obtain ⟨z',hz'⟩:=Ls j' x' hj'
    exact h.ρI j j' z z' hz hz' he
  · show (match Nat.beq σ n.id with | true=>_ | false=>g.H k σ)=_
    rw [show Nat.beq σ n.id=false from Bool.eq_false_iff.2 fun e=>hne (Nat.eq_of_beq_eq_true e)]
theorem kept_same {n:Ann} {I:Nat->Prop} {M:Nat->Prop} (hid:n.id≠0) (hI:¬ I n.id) (hl:Lft M I g1 a w g' a' w') (h1:∀ k ls,keptL n st k=some (n.id,ls)->g1.H k n.id=ls) (h:MRel F g' s (tm a') w') (hk:keptOk n s=true) :
  ∀ k,k∈n.kept -> ∀ σ0 ls0,st.L k=some (σ0,ls0) -> ∃ σ ls,s.L k=some (σ,ls) /\ ls.map unown=ls0.map unown:=fun k hkm σ0 ls0 h0=>by
 unfold keptOk at hk
 have h2:=List.all_eq_true.1 hk k hkm
 split at h2
 ·rename_i σ ls hL
  have e:σ=n.id:=Nat.eq_of_beq_eq_true h2
  subst e
  obtain ⟨q1,q2⟩:=h.hist k _ ls hL hid
  have hkl:keptL n st k=some (n.id,ls0.map unown):=by
   unfold keptL
   rw [hasN_iff.2 hkm,h0]
  have q3:=h1 k _ hkl
  have q4:=hl.H k n.id hI hid
  refine ⟨_,ls,hL,?_⟩
  rw [map_D (fun l hl=>unown_same hl) q2,<- q1,q4,q3]
 ·cases h2
theorem iter_of_loop {S R:Type} {body:S->Option (R⊕S)} {x:S} {r:R} (h:loopC body x=some r):∃ n,iterC body n x=some r:=by
 unfold loopC at h
 split at h
 ·rename_i hex
  injection h with h
  obtain ⟨n,hn⟩:=hex.choose_spec
  exact ⟨n,by rw [hn,h]⟩
 ·cases h
theorem iter_succ {S R:Type} {body:S->Option (R⊕S)} {k:Nat} {x:S} {r:R} (h:iterC body (k+1) x=some r):body x=some (.inl r) \/ ∃ x2,body x=some (.inr x2) /\ iterC body k x2=some r:=by
 unfold iterC at h
 split at h
 ·cases h
 ·rename_i r' hb
  injection h with h
  exact .inl (by rw [hb,h])
 ·rename_i x2 hb
  exact .inr ⟨x2,hb,h⟩
theorem join_some {S R:Type} {A:Option (R⊕S)} {B:S->Option R} {r:R} (h:joinC A B=some r):A=some (.inl r) \/ ∃ x,A=some (.inr x) /\ B x=some r:=by
 unfold joinC at h
 split at h
 ·cases h
 ·injection h with h;exact .inl (by rw [h])
 ·rename_i x;exact .inr ⟨x,rfl,h⟩
structure LftX (x:Xt) (M I:Nat->Prop) (g:Gh) (a:Act) (w:World) (g':Gh) (a':Act) (w':World):Prop where
 ρ:∀ k,¬ M k->g'.ρ k=g.ρ k
 lft:x≠.ret->Lft M I g a w g' a' w'
theorem Lft.x {M I:Nat->Prop} {x:Xt} (h:Lft M I g a w g' a' w'):LftX x M I g a w g' a' w':=⟨h.ρ,fun _=>h⟩
theorem LftX.mono {M I M' I':Nat->Prop} {x:Xt} (h:LftX x M I g a w g' a' w') (hm:∀ i,M i->M' i) (hi:∀ i,I i->I' i):LftX x M' I' g a w g' a' w':=
 ⟨fun i hn=>h.ρ i fun e=>hn (hm i e),fun e=>(h.lft e).mono hm hi⟩
theorem Lft.transX {M I:Nat->Prop} {x:Xt} {g2:Gh} {a2:Act} {w2:World} (h:Lft M I g a w g' a' w') (k:LftX x M I g' a' w' g2 a2 w2):LftX x M I g a w g2 a2 w2:=
 ⟨fun i hi=>(k.ρ i hi).trans (h.ρ i hi),fun e=>h.trans (k.lft e)⟩
def HandS (P:Program) (F:Fr) (c:Code) (h:PSt->Option (Bool×PSt)):Prop:=
 ∀ (g:Gh) (st st':PSt) (a:Act) (w:World),AR F g st a w->h st=some (true,st')->c.wp P (fun e a' w'=>e=.ret /\ ∃ g',AR F g' st' a' w' /\ g'.ρ=g.ρ) a w
def PostC {R:Type} (F:Fr) (M I:Nat->Prop) (g:Gh) (a:Act) (w:World) (Q:Xt->PSt->Option R) (r:R):Exit->Act->World->Prop:=fun e a' w'=>∃ x st' g',e=x.out /\ Q x st'=some r /\ AR F g' st' a' w' /\ LftX x M I g a w g' a' w'
theorem PostC.mono {R R':Type} {M I M' I':Nat->Prop} {Q:Xt->PSt->Option R} {r:R} {Q':Xt->PSt->Option R'} {r':R'} {g0:Gh} {a0:Act} {w0:World} {e:Exit} (h:PostC F M I g a w Q r e a' w') (hm:∀ i,M i->M' i) (hi:∀ i,I i->I' i) (hf:Lft M' I' g0 a0 w0 g a w)
  (hq:∀ x s,Q x s=some r->Q' x s=some r'):PostC F M' I' g0 a0 w0 Q' r' e a' w':=by
 obtain ⟨x,st',g',he,hQ,hR,hl⟩:=h
 exact ⟨x,st',g',he,hq _ _ hQ,hR,hf.transX (hl.mono hm hi)⟩
theorem wp_scope_ghost {P:Program} {Q:Exit->Act->World->Prop} {a:Act} {w:World} {c:Code} (I:Nat->Nat->Act->World->Prop)
  (first:c.wp P (fun e a' w'=>match e with | .goto l=>(∃ n,I l n a' w' /\ (findLabel c l).isSome=true) \/ (findLabel c l=none /\ Q (.goto l) a' w') | e=>Q e a' w') a w)
  (pass:∀ l n a w rest,findLabel c l=some rest->I l n a w->rest.wp P (fun e a' w'=>match e with | .goto l'=>(∃ n',n' < n /\ I l' n' a' w' /\ (findLabel c l').isSome=true) \/ (findLabel c l'=none /\ Q (.goto l') a' w') | e=>Q e a' w') a w):(Code.scope c).wp P Q a w:=by
 intro b k cs
 have key:∀ n l rest a w,findLabel c l=some rest->I l n a w -> ∃ e a' w',Q e a' w' /\ Arrives P (lone (b.at a (.code rest::.inScope c::k)) cs w) b k cs e a' w':=by
  intro n
  induction n using Nat.strongRecOn with
  | _ n ih=>
   intro l rest a w hf hI
   obtain ⟨e,a₁,w₁,hq,harr⟩:=pass l n a w rest hf hI b (.inScope c::k) cs
   cases e with
   | normal=>exact ⟨.normal,a₁,w₁,hq,Steps.trans harr (.one step_inScope)⟩
   | exit id=>exact ⟨.exit id,a₁,w₁,hq,fun k' hk=>harr k' (by simp [exitTo,hk])⟩
   | goto l'=>
    rcases hq with ⟨n',hlt,hI',hs⟩ | ⟨hn,hq⟩
    ·obtain ⟨rest',hr'⟩:=Option.isSome_iff_exists.1 hs
     obtain ⟨e₂,a₂,w₂,hq₂,harr₂⟩:=ih n' hlt l' rest' a₁ w₁ hr' hI'
     exact ⟨e₂,a₂,w₂,hq₂,.of_steps (harr _ (by simp [gotoIn,hr'])) harr₂⟩
    ·exact ⟨.goto l',a₁,w₁,hq,fun k' hk=>harr k' (by simp [gotoIn,hn,hk])⟩
   | ret=>exact ⟨_,a₁,w₁,hq,harr⟩
   | panic ch=>exact ⟨_,a₁,w₁,hq,harr⟩
   | outgrown=>exact ⟨_,a₁,w₁,hq,harr⟩
 obtain ⟨e,a₁,w₁,hq,harr⟩:=first b (.inScope c::k) cs
 cases e with
 | normal=>exact ⟨.normal,a₁,w₁,hq,.head step_scope (Steps.trans harr (.one step_inScope))⟩
 | exit id=>exact ⟨.exit id,a₁,w₁,hq,fun k' hk=>.head step_scope (harr k' (by simp [exitTo,hk]))⟩
 | goto l'=>
  rcases hq with ⟨n',hI',hs⟩ | ⟨hn,hq⟩
  ·obtain ⟨rest',hr'⟩:=Option.isSome_iff_exists.1 hs
   obtain ⟨e₂,a₂,w₂,hq₂,harr₂⟩:=key n' l' rest' a₁ w₁ hr' hI'
   exact ⟨e₂,a₂,w₂,hq₂,.of_steps (.head step_scope (harr _ (by simp [gotoIn,hr']))) harr₂⟩
  ·exact ⟨.goto l',a₁,w₁,hq,fun k' hk=>.head step_scope (harr k' (by simp [gotoIn,hn,hk]))⟩
 | ret=>exact ⟨_,a₁,w₁,hq,.of_steps (.one step_scope) harr⟩
 | panic ch=>exact ⟨_,a₁,w₁,hq,.of_steps (.one step_scope) harr⟩
 | outgrown=>exact ⟨_,a₁,w₁,hq,.of_steps (.one step_scope) harr⟩
theorem codeLabs_none:∀ {c:Code} {l:Nat},hasN (codeLabs c) l=false->findLabel c l=none:=by
 intro c
 induction c with
 | seq a b iha ihb=>
  intro l h
  have h':¬ l∈codeLabs a++codeLabs b:=fun hm=>by rw [show hasN (codeLabs (.seq a b)) l=true from hasN_iff.2 hm] at h;cases h
  unfold findLabel
  rw [iha (Bool.eq_false_iff.2 fun e=>h' (List.mem_append_left _ (hasN_iff.1 e)))]
  exact ihb (Bool.eq_false_iff.2 fun e=>h' (List.mem_append_right _ (hasN_iff.1 e)))
 | label l'=>
  intro l h
  unfold findLabel
  rw [if_neg]
  intro e
  have:l'=l:=by simpa using e
  rw [this,show hasN (codeLabs (.label l)) l=true from hasN_iff.2 List.mem_cons_self] at h
  cases h
 | _=>intro l h;rfl
theorem codeLabs_some:∀ {c:Code} {l:Nat},hasN (codeLabs c) l=true -> ∃ rest,findLabel c l=some rest:=by
 intro c
 induction c with
 | seq a b iha ihb=>
  intro l h
  unfold findLabel
  cases hf:findLabel a l with
  | some rest=>exact ⟨_,rfl⟩
  | none=>
   rcases List.mem_append.1 (hasN_iff.1 h) with h | h
   ·obtain ⟨rest,hr⟩:=iha (hasN_iff.2 h)
    rw [hr] at hf;cases hf
   ·exact ihb (hasN_iff.2 h)
 | label l'=>
  intro l h
  have:l=l':=by simpa [codeLabs] using hasN_iff.1 h
  subst this
  unfold findLabel
  rw [if_pos (by simp)]
  exact ⟨_,rfl⟩
 | _=>intro l h;cases h
theorem labs_none:∀ {c:AC} {l:Nat},hasN c.labs l=false->findLabel c.erase l=none
 | .seq a b,l,h=>by
  have h':¬ l∈a.labs++b.labs:=fun hm=>by rw [show hasN (AC.seq a b).labs l=true from hasN_iff.2 hm] at h;cases h
  have ha:=labs_none (c:=a) (l:=l) (Bool.eq_false_iff.2 fun e=>h' (List.mem_append_left _ (hasN_iff.1 e)))
  have hb:=labs_none (c:=b) (l:=l) (Bool.eq_false_iff.2 fun e=>h' (List.mem_append_right _ (hasN_iff.1 e)))
  show findLabel (.seq a.erase b.erase) l=none
  unfold findLabel
  rw [ha];exact hb
 | .join n a b,l,h=>by
  have h':¬ l∈a.labs++b.labs:=fun hm=>by rw [show hasN (AC.join n a b).labs l=true from hasN_iff.2 hm] at h;cases h
  have ha:=labs_none (c:=a) (l:=l) (Bool.eq_false_iff.2 fun e=>h' (List.mem_append_left _ (hasN_iff.1 e)))
  have hb:=labs_none (c:=b) (l:=l) (Bool.eq_false_iff.2 fun e=>h' (List.mem_append_right _ (hasN_iff.1 e)))
  show findLabel (.seq a.erase b.erase) l=none
  unfold findLabel
  rw [ha];exact hb
 | .label l',l,h=>by
  show findLabel (.label l') l=none
  unfold findLabel
  rw [if_neg]
  intro e
  have:l'=l:=by simpa using e
  rw [this,show hasN (AC.label l).labs l=true from hasN_iff.2 List.mem_cons_self] at h
  cases h
 | .skip,_,_=>rfl
 | .region _ _ _,_,_=>rfl
 | .cond _ _ _,_,_=>rfl
 | .block _ _,_,_=>rfl
 | .loop _ _,_,_=>rfl
 | .exit _,_,_=>rfl
 | .ret,_,_=>rfl
 | .goto _,_,_=>rfl
 | .scope _ _,_,_=>rfl
 | .hand _ _,_,h=>codeLabs_none h
theorem labs_some:∀ {c:AC} {l:Nat},hasN c.labs l=true -> ∃ rest,findLabel c.erase l=some rest
 | .seq a b,l,h=>by
  show ∃ rest,findLabel (.seq a.erase b.erase) l=some rest
  unfold findLabel
  cases hf:findLabel a.erase l with
  | some rest=>exact ⟨_,rfl⟩
  | none=>
   rcases List.mem_append.1 (hasN_iff.1 h) with h | h
   ·obtain ⟨rest,hr⟩:=labs_some (c:=a) (hasN_iff.2 h)
    rw [hr] at hf;cases hf
   ·exact labs_some (c:=b) (hasN_iff.2 h)
 | .join n a b,l,h=>by
  show ∃ rest,findLabel (.seq a.erase b.erase) l=some rest
  unfold findLabel
  cases hf:findLabel a.erase l with
  | some rest=>exact ⟨_,rfl⟩
  | none=>
   rcases List.mem_append.1 (hasN_iff.1 h) with h | h
   ·obtain ⟨rest,hr⟩:=labs_some (c:=a) (hasN_iff.2 h)
    rw [hr] at hf;cases hf
   ·exact labs_some (c:=b) (hasN_iff.2 h)
 | .label l',l,h=>by
  have:l=l':=by simpa [AC.labs] using hasN_iff.1 h
  subst this
  show ∃ rest,findLabel (.label l) l=some rest
  unfold findLabel
  rw [if_pos (by simp)]
  exact ⟨_,rfl⟩
 | .skip,_,h=>by cases h
 | .region _ _ _,_,h=>by cases h
 | .cond _ _ _,_,h=>by cases h
 | .block _ _,_,h=>by cases h
 | .loop _ _,_,h=>by cases h
 | .exit _,_,h=>by cases h
 | .ret,_,h=>by cases h
 | .goto _,_,h=>by cases h
 | .scope _ _,_,h=>by cases h
 | .hand _ _,_,h=>codeLabs_some h
def PVS (E:Env) (F:Fr) (c:AC):Prop:=∀ {R:Type} (Q:Xt->PSt->Option R) (st:PSt) (r:R) (g:Gh) (a:Act) (w:World),c.good=true->(∀ d∈c.dsts,d < F.n)->AR F g st a w->pv E c Q st=some r ->
  c.erase.wp E.P (PostC F (· ∈ c.dsts) (· ∈ c.ids) g a w Q r) a w
def FRS (E:Env) (F:Fr) (c:AC):Prop:=∀ {R:Type} (l:Nat) (rest:Code) (Q:Xt->PSt->Option R) (st:PSt) (r:R) (g:Gh) (a:Act) (w:World),findLabel c.erase l=some rest->c.labOk=true->c.good=true->(∀ d∈c.dsts,d < F.n)->AR F g st a w->pvFrom E c l Q st=some r ->
  rest.wp E.P (PostC F (· ∈ c.dsts) (· ∈ c.ids) g a w Q r) a w
theorem frs_none {c:AC} (h:∀ l,findLabel c.erase l=none):FRS E F c:=fun l rest Q st r g a w hf=>by rw [h l] at hf;cases hf
theorem pv_both (hE:E.okF F):∀ c:AC,(∀ p∈c.hands,HandS E.P F p.1 p.2)->PVS E F c /\ FRS E F c:=by
  intro c
  induction c with
  | hand c h=>
    intro hh
    refine ⟨?_,?_⟩
    · intro R Q st r g a w _ _ hA hv
      unfold pv at hv
      split at hv
      · rename_i b s hs
        obtain ⟨rfl,hv⟩:=chk_some hv
        refine Code.wp_mono (fun e a' w' hp=>?_) (hh (c,h) List.mem_cons_self g st s a w hA hs)
        obtain ⟨rfl,g',h1,h2⟩:=hp
        exact ⟨.ret,s,g',rfl,hv,h1,fun k _=>by rw [h2],fun e=>(e rfl).elim⟩
      · cases hv
    · intro R l rest Q st r g a w hf hlo hg hd h hv
      unfold pvFrom at hv
      cases hv
  | skip=>
    intro _
    refine ⟨?_,frs_none fun _=>rfl⟩
    intro R Q st r g a w _ _ h hv;exact wp_skip ⟨.normal,st,g,rfl,hv,h,(Lft.refl _ _).x⟩
  | exit id=>
    intro _
    refine ⟨?_,frs_none fun _=>rfl⟩
    intro R Q st r g a w _ _ h hv;exact wp_exit ⟨.exit id,st,g,rfl,hv,h,(Lft.refl _ _).x⟩
  | ret=>
    intro _
    refine ⟨?_,frs_none fun _=>rfl⟩
    intro R Q st r g a w _ _ h hv;exact wp_ret ⟨.ret,st,g,rfl,hv,h,(Lft.refl _ _).x⟩
  | region id ops d=>
    intro _
    refine ⟨?_,frs_none fun _=>rfl⟩
    intro R Q st r g a w _ hd h hv
    have hmem:∀ o∈ops.toList,∀ x,o.dst=some x->x < F.n /\ x∈(AC.region id ops d).dsts:=fun o ho x hx=>by
      have hm:x∈(AC.region id ops d).dsts:=List.mem_filterMap.2 ⟨o,ho,hx⟩
      exact ⟨hd x hm,hm⟩
    have h':AR F g (sanSt (madeBy ops.toList) st) a w:=⟨h.size,h.defers,san_rel _ h.rel⟩
    cases d with
    | true=>
      refine draw_sound (M:=(· ∈ (AC.region id ops true).dsts)) hE hmem h' hv fun a' w' g' st' hK h2 hl=>⟨.normal,st',g',rfl,hK,h2,(hl.mono (fun _ h=>h) (fun _ h=>h.elim)).x⟩
    | false=>
      refine wp_region_list (pvOps_sound (M:=(· ∈ (AC.region id ops false).dsts)) hE ops.toList [] g _ a w _ hmem h' hv fun a' w' g' tr' st' hK h2 hl=>⟨.normal,st',g',rfl,hK,h2,(hl.mono (fun _ h=>h) (fun _ h=>h.elim)).x⟩)
  | seq x y ihx ihy=>
    intro hh
    obtain ⟨ihx,fx⟩:=ihx fun p hp=>hh p (List.mem_append_left _ hp)
    obtain ⟨ihy,fy⟩:=ihy fun p hp=>hh p (List.mem_append_right _ hp)
    refine ⟨?_,?_⟩
    case refine_2=>
      intro R l rest Q st r g a w hf hlo hg hd h hv
      simp only [AC.good,Bool.and_eq_true] at hg
      simp only [AC.labOk,Bool.and_eq_true] at hlo
      have hdx:∀ d∈x.dsts,d < F.n:=fun d hm=>hd d (List.mem_append_left _ hm)
      have hdy:∀ d∈y.dsts,d < F.n:=fun d hm=>hd d (List.mem_append_right _ hm)
      have hf:(match findLabel x.erase l with | some rest=>some (.seq rest y.erase) | none=>findLabel y.erase l)=some rest:=hf
      unfold pvFrom at hv
      cases hx:hasN x.labs l with
      | false=>
        rw [hx] at hv
        rw [labs_none hx] at hf
        exact Code.wp_mono (fun e a2 w2 hp=>hp.mono (fun i hi=>List.mem_append_right _ hi) (fun i hi=>List.mem_append_right _ hi) (Lft.refl _ _) fun _ _ q=>q) (fy l rest Q st r g a w hf hlo.2 hg.2 hdy h hv)
      | true=>
        rw [hx] at hv
        obtain ⟨r1,hr1⟩:=labs_some hx
        rw [hr1] at hf
        injection hf with hf
        subst hf
        refine wp_seq (Code.wp_mono (fun e a' w' hp=>?_) (fx l r1 _ st r g a w hr1 hlo.1 hg.1 hdx h hv))
        obtain ⟨xt,st',g',rfl,hQ,hR,hl⟩:=hp
        have hl':LftX xt (· ∈ (AC.seq x y).dsts) (· ∈ (AC.seq x y).ids) g a w g' a' w':=hl.mono (fun i hi=>List.mem_append_left _ hi) (fun i hi=>List.mem_append_left _ hi)
        cases xt with
        | exit i=>exact ⟨.exit i,st',g',rfl,hQ,hR,hl'⟩
        | goto i=>exact ⟨.goto i,st',g',rfl,hQ,hR,hl'⟩
        | ret=>exact ⟨.ret,st',g',rfl,hQ,hR,hl'⟩
        | normal=>
          refine Code.wp_mono (fun e a2 w2 hp=>?_) (ihy Q st' r g' a' w' hg.2 hdy hR hQ)
          exact hp.mono (fun i hi=>List.mem_append_right _ hi) (fun i hi=>List.mem_append_right _ hi) (hl'.lft (by intro e;cases e)) fun _ _ q=>q
    intro R Q st r g a w hg hd h hv
    simp only [AC.good,Bool.and_eq_true] at hg
    have hdx:∀ d∈x.dsts,d < F.n:=fun d hm=>hd d (List.mem_append_left _ hm)
    have hdy:∀ d∈y.dsts,d < F.n:=fun d hm=>hd d (List.mem_append_right _ hm)
    refine wp_seq (Code.wp_mono (fun e a' w' hp=>?_) (ihx _ st r g a w hg.1 hdx h hv))
    obtain ⟨xt,st',g',rfl,hQ,hR,hl⟩:=hp
    have hl':LftX xt (· ∈ (AC.seq x y).dsts) (· ∈ (AC.seq x y).ids) g a w g' a' w':=hl.mono (fun i hi=>List.mem_append_left _ hi) (fun i hi=>List.mem_append_left _ hi)
    cases xt with
    | exit i=>exact ⟨.exit i,st',g',rfl,hQ,hR,hl'⟩
    | goto i=>exact ⟨.goto i,st',g',rfl,hQ,hR,hl'⟩
    | ret=>exact ⟨.ret,st',g',rfl,hQ,hR,hl'⟩
    | normal=>
      refine Code.wp_mono (fun e a2 w2 hp=>?_) (ihy Q st' r g' a' w' hg.2 hdy hR hQ)
      exact hp.mono (fun i hi=>List.mem_append_right _ hi) (fun i hi=>List.mem_append_right _ hi) (hl'.lft (by intro e;cases e)) fun _ _ q=>q
  | join n x y ihx ihy=>
    intro hh
    obtain ⟨ihx,fx⟩:=ihx fun p hp=>hh p (List.mem_append_left _ hp)
    obtain ⟨ihy,fy⟩:=ihy fun p hp=>hh p (List.mem_append_right _ hp)
    refine ⟨?_,?_⟩
    case refine_2=>
      intro R l rest Q st r g a w hf hlo hg hd h hv
      unfold pvFrom at hv
      cases hv
    intro R Q st r g a w hg hd h hv
    simp only [AC.good,Bool.and_eq_true] at hg
    obtain ⟨⟨⟨⟨hg1,hg2⟩,hg3⟩,hg4⟩,hg5⟩:=hg
    have hdx:∀ d∈x.dsts,d < F.n:=fun d hm=>hd d (List.mem_append_left _ hm)
    have hdy:∀ d∈y.dsts,d < F.n:=fun d hm=>hd d (List.mem_append_right _ hm)
    have hM:∀ d,d∈x.dsts->n.has d=true:=fun d hm=>List.all_eq_true.1 hg3 d hm
    simp only [okIds,Bool.and_eq_true,Bool.not_eq_true'] at hg4
    have hid:n.id≠0:=fun e=>by have h4:=hg4.1;rw [e] at h4;cases h4
    have hnot:¬ n.id∈x.ids:=fun hm=>by have h4:=hg4.2;rw [hasN_iff.2 hm] at h4;cases h4
    obtain ⟨g1,hrel1,hC1,hρ1,hH1,hK1⟩:=stamp_rel n h.rel
    have h1:AR F g1 (stampSt n st) a w:=⟨h.size,h.defers,hrel1⟩
    have tolx:∀ {g' a' w'},Lft (· ∈ x.dsts) (· ∈ x.ids) g1 a w g' a' w'->Lft (· ∈ x.dsts) (· ∈ (AC.join n x y).ids) g a w g' a' w':=fun {g' a' w'} hl=>
      ⟨fun i hi=>hl.tmp i hi,fun k hk=>(hl.ρ k hk).trans (by rw [hρ1]),by have:=hl.gw;rw [hC1] at this;exact this,
        fun k σ hσ h0=>(hl.H k σ (fun hm=>hσ (List.mem_cons_of_mem _ (List.mem_append_left _ hm))) h0).trans (hH1 k σ fun e=>hσ (by rw [e];exact List.mem_cons_self))⟩
    have tol:∀ {g' a' w'},Lft (· ∈ x.dsts) (· ∈ x.ids) g1 a w g' a' w'->Lft (· ∈ (AC.join n x y).dsts) (· ∈ (AC.join n x y).ids) g a w g' a' w':=fun {g' a' w'} hl=>(tolx hl).mono (fun i hi=>List.mem_append_left _ hi) (fun _ hi=>hi)
    have tolX:∀ {x' g' a' w'},LftX x' (· ∈ x.dsts) (· ∈ x.ids) g1 a w g' a' w'->LftX x' (· ∈ (AC.join n x y).dsts) (· ∈ (AC.join n x y).ids) g a w g' a' w':=fun {x' g' a' w'} hl=>⟨fun k hk=>(hl.ρ k fun hm=>hk (List.mem_append_left _ hm)).trans (by rw [hρ1]),fun e=>tol (hl.lft e)⟩
    rcases join_some hv with hv | ⟨xd,hv,hb⟩
    · refine wp_seq (Code.wp_mono (fun e a' w' hp=>?_) (ihx _ _ _ g1 a w hg1 hdx h1 hv))
      obtain ⟨xt,st',g',rfl,hQ,hR,hl⟩:=hp
      cases xt with
      | exit i=>
        obtain ⟨q,hq,he⟩:=Option.map_eq_some_iff.1 hQ
        injection he with he
        subst he
        exact ⟨.exit i,st',g',rfl,hq,hR,tolX hl⟩
      | goto i=>
        obtain ⟨q,hq,he⟩:=Option.map_eq_some_iff.1 hQ
        injection he with he
        subst he
        exact ⟨.goto i,st',g',rfl,hq,hR,tolX hl⟩
      | ret=>
        obtain ⟨q,hq,he⟩:=Option.map_eq_some_iff.1 hQ
        injection he with he
        subst he
        exact ⟨.ret,st',g',rfl,hq,hR,tolX hl⟩
      | normal=>
        exfalso
        simp only at hQ
        split at hQ
        · obtain ⟨q,hq,he⟩:=Option.map_eq_some_iff.1 hQ
          cases he
        · cases hQ
    · refine wp_seq (Code.wp_mono (fun e a' w' hp=>?_) (ihx _ _ _ g1 a w hg1 hdx h1 hv))
      obtain ⟨xt,st',g',rfl,hQ,hR,hl⟩:=hp
      cases xt with
      | exit i=>obtain ⟨q,hq,he⟩:=Option.map_eq_some_iff.1 hQ;cases he
      | goto i=>obtain ⟨q,hq,he⟩:=Option.map_eq_some_iff.1 hQ;cases he
      | ret=>obtain ⟨q,hq,he⟩:=Option.map_eq_some_iff.1 hQ;cases he
      | normal=>
        simp only at hQ
        split at hQ
        · rename_i hko
          obtain ⟨q,hq,he⟩:=Option.map_eq_some_iff.1 hQ
          injection he with he
          subst he
          split at hb
          · rename_i hd' hhd
            have hl:=hl.lft (by intro e;cases e)
            have hks:=kept_same hid hnot hl hK1 hR.rel hko
            obtain ⟨g2,hrel2,e1,e2,e3,e4⟩:=head_rel (M:=(· ∈ x.dsts)) (n:=n) h.rel (tolx hl) hM hR.rel hq hks hhd
            refine Code.wp_mono (fun e a2 w2 hp=>?_) (ihy Q hd' r g2 a' w' hg2 hdy ⟨hR.size,hR.defers,hrel2⟩ hb)
            refine hp.mono (fun i hi=>List.mem_append_right _ hi) (fun i hi=>List.mem_cons_of_mem _ (List.mem_append_right _ hi)) ?_ fun _ _ q=>q
            exact (tol hl).trans ⟨fun _ _=>rfl,fun k _=>by rw [e2],by rw [e1];exact Gw.refl _ _,fun k σ hσ _=>e3 k σ fun e=>hσ (by rw [e];exact List.mem_cons_self)⟩
          · cases hb
        · cases hQ
  | label l'=>
    intro _
    refine ⟨?_,?_⟩
    · intro R Q st r g a w _ _ h hv;exact wp_label ⟨.normal,st,g,rfl,hv,h,(Lft.refl _ _).x⟩
    · intro R l rest Q st r g a w hf _ _ _ h hv
      have hf:(if l'==l then some Code.skip else none)=some rest:=hf
      split at hf
      · injection hf with hf
        subst hf
        exact wp_skip ⟨.normal,st,g,rfl,hv,h,(Lft.refl _ _).x⟩
      · cases hf
  | goto l=>
    intro _
    refine ⟨?_,frs_none fun _=>rfl⟩
    intro R Q st r g a w _ _ h hv;exact wp_goto ⟨.goto l,st,g,rfl,hv,h,(Lft.refl _ _).x⟩
  | scope n b ih=>
    intro hh
    obtain ⟨ih,fb⟩:=ih hh
    refine ⟨?_,frs_none fun _=>rfl⟩
    intro R Q st r g a w hg hd h hv
    simp only [AC.good,Bool.and_eq_true] at hg
    obtain ⟨⟨⟨⟨hg1,hg3⟩,hg4⟩,hg5⟩,hg6⟩:=hg
    have hM:∀ d,d∈b.dsts->n.has d=true:=fun d hm=>List.all_eq_true.1 hg3 d hm
    simp only [okIds,Bool.and_eq_true,Bool.not_eq_true'] at hg4
    have hid:n.id≠0:=fun e=>by have h4:=hg4.1;rw [e] at h4;cases h4
    have hnot:¬ n.id∈b.ids:=fun hm=>by have h4:=hg4.2;rw [hasN_iff.2 hm] at h4;cases h4
    obtain ⟨g1,hrel1,hC1,hρ1,hH1,hK1⟩:=stamp_rel n h.rel
    have h1:AR F g1 (stampSt n st) a w:=⟨h.size,h.defers,hrel1⟩
    have tol:∀ {g' a' w'},Lft (· ∈ b.dsts) (· ∈ b.ids) g1 a w g' a' w'->Lft (· ∈ b.dsts) (· ∈ (AC.scope n b).ids) g a w g' a' w':=fun {g' a' w'} hl=>
      ⟨fun i hi=>hl.tmp i hi,fun k hk=>(hl.ρ k hk).trans (by rw [hρ1]),by have:=hl.gw;rw [hC1] at this;exact this,
        fun k σ hσ h0=>(hl.H k σ (fun hm=>hσ (List.mem_cons_of_mem _ hm)) h0).trans (hH1 k σ fun e=>hσ (by rw [e];exact List.mem_cons_self))⟩
    have tolX:∀ {x' g' a' w'},LftX x' (· ∈ b.dsts) (· ∈ b.ids) g1 a w g' a' w'->LftX x' (· ∈ b.dsts) (· ∈ (AC.scope n b).ids) g a w g' a' w':=fun {x' g' a' w'} hl=>⟨fun k hk=>(hl.ρ k hk).trans (by rw [hρ1]),fun e=>tol (hl.lft e)⟩
    rcases join_some hv with hv | ⟨⟨l0,x0⟩,hv,hb⟩
    · refine wp_scope_ghost (fun _ _ _ _=>False) (Code.wp_mono (fun e a' w' hp=>?_) (ih _ _ _ g1 a w hg1 hd h1 hv)) (fun _ _ _ _ _ _ hF=>hF.elim)
      obtain ⟨xt,st',g',rfl,hQ,hR,hl⟩:=hp
      cases xt with
      | exit i=>
        obtain ⟨q,hq,he⟩:=Option.map_eq_some_iff.1 hQ
        injection he with he
        subst he
        exact ⟨.exit i,st',g',rfl,hq,hR,tolX hl⟩
      | normal=>
        obtain ⟨q,hq,he⟩:=Option.map_eq_some_iff.1 hQ
        injection he with he
        subst he
        exact ⟨.normal,st',g',rfl,hq,hR,tolX hl⟩
      | ret=>
        obtain ⟨q,hq,he⟩:=Option.map_eq_some_iff.1 hQ
        injection he with he
        subst he
        exact ⟨.ret,st',g',rfl,hq,hR,tolX hl⟩
      | goto i=>
        simp only at hQ
        cases hi:hasN b.labs i with
        | true=>
          rw [hi] at hQ
          simp only at hQ
          split at hQ
          · obtain ⟨q,hq,he⟩:=Option.map_eq_some_iff.1 hQ
            cases he
          · cases hQ
        | false=>
          rw [hi] at hQ
          obtain ⟨q,hq,he⟩:=Option.map_eq_some_iff.1 hQ
          injection he with he
          subst he
          exact .inr ⟨labs_none hi,.goto i,st',g',rfl,hq,hR,tolX hl⟩
    · obtain ⟨k0,hk0⟩:=iter_of_loop hb
      obtain ⟨B,hk0,hB⟩:∃ B:Nat×n.D->Option (R⊕(Nat×n.D)),iterC B k0 (l0,x0)=some r /\ ∀ p,B p=(match headSt n st p.2 with
        | some h=>pvFrom E b p.1 (fun x s=>match x with
          | .goto l=>match hasN b.labs l with
            | true=>match keptOk n s with | true=>(collect n s).map fun y=>.inr (l,y) | false=>none
            | false=>(Q (.goto l) s).map .inl
          | x=>(Q x s).map .inl) h
        | none=>none):=⟨_,hk0,fun _=>rfl⟩
      have mk : ∀ {g' a' w' s x hd'}, AR F g' s a' w' -> Lft (· ∈ b.dsts) (· ∈ (AC.scope n b).ids) g a w g' a' w' -> collect n s = some x -> (∀ k, k ∈ n.kept -> ∀ σ0 ls0, st.L k = some (σ0, ls0) -> ∃ σ ls, s.L k = some (σ, ls) /\ ls.map unown = ls0.map unown) -> headSt n st x = some hd' ->
          ∃ g2,AR F g2 hd' a' w' /\ Lft (· ∈ b.dsts) (· ∈ (AC.scope n b).ids) g a w g2 a' w' /\ ∀ k ls,keptL n st k=some (n.id,ls)->g2.H k n.id=ls:=fun {g' a' w' s x hd'} hs hl hc hks hhd=>by
        obtain ⟨g2,hrel2,e1,e2,e3,e4⟩:=head_rel (M:=(· ∈ b.dsts)) (n:=n) h.rel hl hM hs.rel hc hks hhd
        exact ⟨g2,⟨hs.size,hs.defers,hrel2⟩,hl.trans ⟨fun _ _=>rfl,fun k _=>by rw [e2],by rw [e1];exact Gw.refl _ _,fun k σ hσ _=>e3 k σ fun e=>hσ (by rw [e];exact List.mem_cons_self)⟩,e4⟩
      refine wp_scope_ghost (fun l k a' w'=>∃ x s g',iterC B k (l,x)=some r /\ AR F g' s a' w' /\ Lft (· ∈ b.dsts) (· ∈ (AC.scope n b).ids) g a w g' a' w' /\ collect n s=some x /\ (∀ k,k∈n.kept -> ∀ σ0 ls0,st.L k=some (σ0,ls0) -> ∃ σ ls,s.L k=some (σ,ls) /\ ls.map unown=ls0.map unown))
        (Code.wp_mono (fun e a' w' hp=>?_) (ih _ _ _ g1 a w hg1 hd h1 hv)) ?_
      · obtain ⟨xt,st',g',rfl,hQ,hR,hl⟩:=hp
        cases xt with
        | exit i=>obtain ⟨q,hq,he⟩:=Option.map_eq_some_iff.1 hQ;cases he
        | normal=>obtain ⟨q,hq,he⟩:=Option.map_eq_some_iff.1 hQ;cases he
        | ret=>obtain ⟨q,hq,he⟩:=Option.map_eq_some_iff.1 hQ;cases he
        | goto i=>
          simp only at hQ
          cases hi:hasN b.labs i with
          | false=>
            rw [hi] at hQ
            obtain ⟨q,hq,he⟩:=Option.map_eq_some_iff.1 hQ
            cases he
          | true=>
            rw [hi] at hQ
            simp only at hQ
            split at hQ
            · rename_i hko
              obtain ⟨q,hq,he⟩:=Option.map_eq_some_iff.1 hQ
              injection he with he
              injection he with he1 he2
              subst he1;subst he2
              obtain ⟨r1,hr1⟩:=labs_some hi
              exact .inl ⟨k0,⟨q,st',g',hk0,hR,tol (hl.lft (by intro e;cases e)),hq,kept_same hid hnot (hl.lft (by intro e;cases e)) hK1 hR.rel hko⟩,by rw [hr1];rfl⟩
            · cases hQ
      · rintro l k a' w' rest hf ⟨x,s,g',hit,hs,hl,hc,hks⟩
        cases k with
        | zero=>cases hit
        | succ k=>
          rcases iter_succ hit with hbody | ⟨⟨l2,x2⟩,hbody,hit'⟩ <;> rw [hB] at hbody
          · cases hhd:headSt n st x with
            | none=>rw [hhd] at hbody;cases hbody
            | some hd'=>
              rw [hhd] at hbody
              simp only at hbody
              obtain ⟨g2,h2,hl2,hK2⟩:=mk hs hl hc hks hhd
              refine Code.wp_mono (fun e a2 w2 hp=>?_) (fb l rest _ hd' _ g2 a' w' hf hg6 hg1 hd h2 hbody)
              obtain ⟨xt,st2,g3,rfl,hQ,hR,hl3⟩:=hp
              have hl4:=hl2.transX (hl3.mono (fun _ hi=>hi) (fun _ hi=>List.mem_cons_of_mem _ hi))
              cases xt with
              | exit i=>
                obtain ⟨q,hq,he⟩:=Option.map_eq_some_iff.1 hQ
                injection he with he
                subst he
                exact ⟨.exit i,st2,g3,rfl,hq,hR,hl4⟩
              | normal=>
                obtain ⟨q,hq,he⟩:=Option.map_eq_some_iff.1 hQ
                injection he with he
                subst he
                exact ⟨.normal,st2,g3,rfl,hq,hR,hl4⟩
              | ret=>
                obtain ⟨q,hq,he⟩:=Option.map_eq_some_iff.1 hQ
                injection he with he
                subst he
                exact ⟨.ret,st2,g3,rfl,hq,hR,hl4⟩
              | goto i=>
                simp only at hQ
                cases hi:hasN b.labs i with
                | true=>
                  rw [hi] at hQ
                  simp only at hQ
                  split at hQ
                  · obtain ⟨q,hq,he⟩:=Option.map_eq_some_iff.1 hQ
                    cases he
                  · cases hQ
                | false=>
                  rw [hi] at hQ
                  obtain ⟨q,hq,he⟩:=Option.map_eq_some_iff.1 hQ
                  injection he with he
                  subst he
                  exact .inr ⟨labs_none hi,.goto i,st2,g3,rfl,hq,hR,hl4⟩
          · cases hhd:headSt n st x with
            | none=>rw [hhd] at hbody;cases hbody
            | some hd'=>
              rw [hhd] at hbody
              simp only at hbody
              obtain ⟨g2,h2,hl2,hK2⟩:=mk hs hl hc hks hhd
              refine Code.wp_mono (fun e a2 w2 hp=>?_) (fb l rest _ hd' _ g2 a' w' hf hg6 hg1 hd h2 hbody)
              obtain ⟨xt,st2,g3,rfl,hQ,hR,hl3⟩:=hp
              have hl4:=hl2.transX (hl3.mono (fun _ hi=>hi) (fun _ hi=>List.mem_cons_of_mem _ hi))
              cases xt with
              | exit i=>obtain ⟨q,hq,he⟩:=Option.map_eq_some_iff.1 hQ;cases he
              | normal=>obtain ⟨q,hq,he⟩:=Option.map_eq_some_iff.1 hQ;cases he
              | ret=>obtain ⟨q,hq,he⟩:=Option.map_eq_some_iff.1 hQ;cases he
              | goto i=>
                simp only at hQ
                cases hi:hasN b.labs i with
                | false=>
                  rw [hi] at hQ
                  obtain ⟨q,hq,he⟩:=Option.map_eq_some_iff.1 hQ
                  cases he
                | true=>
                  rw [hi] at hQ
                  simp only at hQ
                  split at hQ
                  · rename_i hko
                    obtain ⟨q,hq,he⟩:=Option.map_eq_some_iff.1 hQ
                    injection he with he
                    injection he with he1 he2
                    subst he1;subst he2
                    obtain ⟨r1,hr1⟩:=labs_some hi
                    exact .inl ⟨k,Nat.lt_succ_self k,⟨q,st2,g3,hit',hR,hl4.lft (by intro e;cases e),hq,kept_same hid hnot (hl3.lft (by intro e;cases e)) hK2 hR.rel hko⟩,by rw [hr1];rfl⟩
                  · cases hQ
  | cond c x y ihx ihy=>
    intro hh
    obtain ⟨ihx,fx⟩:=ihx fun p hp=>hh p (List.mem_append_left _ hp)
    obtain ⟨ihy,fy⟩:=ihy fun p hp=>hh p (List.mem_append_right _ hp)
    refine ⟨?_,frs_none fun _=>rfl⟩
    intro R Q st r g a w hg hd h hv
    simp only [AC.good,Bool.and_eq_true] at hg
    have hdx:∀ d∈x.dsts,d < F.n:=fun d hm=>hd d (List.mem_append_left _ hm)
    have hdy:∀ d∈y.dsts,d < F.n:=fun d hm=>hd d (List.mem_append_right _ hm)
    unfold pv at hv
    split at hv
    · rename_i b hb
      have hc:=evS_rel h.rel c
      rw [hb] at hc
      have hc':a.eval c=.bool b:=rel_bool hc
      have key:∀ q:Bool,b=q->(cond q (pv E x Q st) (pv E y Q st))=some r->(Code.cond c x.erase y.erase).wp E.P (PostC F (· ∈ (AC.cond c x y).dsts) (· ∈ (AC.cond c x y).ids) g a w Q r) a w:=fun q e hv=>by
        subst e
        cases b with
        | true=>exact wp_cond_true hc' (Code.wp_mono (fun e a' w' hp=>hp.mono (fun i hi=>List.mem_append_left _ hi) (fun i hi=>List.mem_append_left _ hi) (Lft.refl _ _) (fun _ _ q=>q)) (ihx Q st r g a w hg.1 hdx h hv))
        | false=>exact wp_cond_false hc' (Code.wp_mono (fun e a' w' hp=>hp.mono (fun i hi=>List.mem_append_right _ hi) (fun i hi=>List.mem_append_right _ hi) (Lft.refl _ _) (fun _ _ q=>q)) (ihy Q st r g a w hg.2 hdy h hv))
      exact key b rfl hv
    · cases hv
  | block id b ih=>
    intro hh
    obtain ⟨ih,fb⟩:=ih hh
    refine ⟨?_,frs_none fun _=>rfl⟩
    intro R Q st r g a w hg hd h hv
    refine wp_block (Code.wp_mono (fun e a' w' hp=>?_) (ih _ st r g a w hg hd h hv))
    obtain ⟨x,st',g',rfl,hQ,hr,hF⟩:=hp
    cases x with
    | normal=>exact ⟨.normal,st',g',rfl,hQ,hr,hF⟩
    | ret=>exact ⟨.ret,st',g',rfl,hQ,hr,hF⟩
    | goto i=>exact ⟨.goto i,st',g',rfl,hQ,hr,hF⟩
    | exit i=>
      have hF':=hF.lft (by intro e;cases e)
      show (if i=id then _ else _)
      cases hb:Nat.beq i id with
      | true=>
        rw [if_pos (Nat.eq_of_beq_eq_true hb)]
        simp only [hb] at hQ
        exact ⟨.normal,st',g',rfl,hQ,hr,hF'.x⟩
      | false=>
        rw [if_neg (fun e=>by rw [e] at hb;simp at hb)]
        simp only [hb] at hQ
        exact ⟨.exit i,st',g',rfl,hQ,hr,hF⟩
  | loop n b ih=>
    intro hh
    obtain ⟨ih,fb⟩:=ih hh
    refine ⟨?_,frs_none fun _=>rfl⟩
    intro R Q st r g a w hg hd h hv
    simp only [AC.good,Bool.and_eq_true] at hg
    obtain ⟨⟨⟨hg1,hg3⟩,hg4⟩,hg5⟩:=hg
    have hM:∀ d,d∈b.dsts->n.has d=true:=fun d hm=>List.all_eq_true.1 hg3 d hm
    simp only [okIds,Bool.and_eq_true,Bool.not_eq_true'] at hg4
    have hid:n.id≠0:=fun e=>by have h4:=hg4.1;rw [e] at h4;cases h4
    have hnot:¬ n.id∈b.ids:=fun hm=>by have h4:=hg4.2;rw [hasN_iff.2 hm] at h4;cases h4
    unfold pv at hv
    split at hv
    case h_2=>cases hv
    rename_i x0 hx0
    obtain ⟨k0,hk0⟩:=iter_of_loop hv
    -- the head, from a state whose data are these
    have mk : ∀ {g' a' w' s x hd'}, AR F g' s a' w' -> Lft (· ∈ b.dsts) (· ∈ (AC.loop n b).ids) g a w g' a' w' -> collect n s = some x -> (∀ k, k ∈ n.kept -> ∀ σ0 ls0, st.L k = some (σ0, ls0) -> ∃ σ ls, s.L k = some (σ, ls) /\ ls.map unown = ls0.map unown) -> headSt n st x = some hd' ->
        ∃ g2,AR F g2 hd' a' w' /\ Lft (· ∈ b.dsts) (· ∈ (AC.loop n b).ids) g a w g2 a' w' /\ ∀ k ls,keptL n st k=some (n.id,ls)->g2.H k n.id=ls:=fun {g' a' w' s x hd'} hs hl hc hks hhd=>by
      obtain ⟨g2,hrel2,e1,e2,e3,e4⟩:=head_rel (M:=(· ∈ b.dsts)) (n:=n) h.rel hl hM hs.rel hc hks hhd
      exact ⟨g2,⟨hs.size,hs.defers,hrel2⟩,hl.trans ⟨fun _ _=>rfl,fun k _=>by rw [e2],by rw [e1];exact Gw.refl _ _,fun k σ hσ _=>e3 k σ fun e=>hσ (by rw [e];exact List.mem_cons_self)⟩,e4⟩
    refine wp_loop_ghost (fun k a' w'=>∃ x s g',iterC _ k x=some r /\ AR F g' s a' w' /\ Lft (· ∈ b.dsts) (· ∈ (AC.loop n b).ids) g a w g' a' w' /\ collect n s=some x /\ (∀ k,k∈n.kept -> ∀ σ0 ls0,st.L k=some (σ0,ls0) -> ∃ σ ls,s.L k=some (σ,ls) /\ ls.map unown=ls0.map unown)) k0
      ⟨x0,st,g,hk0,h,Lft.refl _ _,hx0,fun k _ σ0 ls0 h0=>⟨σ0,ls0,h0,rfl⟩⟩ ?_
    rintro k a' w' ⟨x,s,g',hit,hs,hl,hc,hks⟩
    cases k with
    | zero=>cases hit
    | succ k=>
      rcases iter_succ hit with hbody | ⟨x2,hbody,hit'⟩
      · cases hhd:headSt n st x with
        | none=>rw [hhd] at hbody;cases hbody
        | some hd'=>
          rw [hhd] at hbody
          simp only at hbody
          obtain ⟨g2,h2,hl2,hK2⟩:=mk hs hl hc hks hhd
          refine Code.wp_mono (fun e a2 w2 hp=>?_) (ih _ hd' _ g2 a' w' hg1 hd h2 hbody)
          obtain ⟨xt,st2,g3,rfl,hQ,hR,hl3⟩:=hp
          have hl4:=hl2.transX (hl3.mono (fun _ hi=>hi) (fun _ hi=>List.mem_cons_of_mem _ hi))
          cases xt with
          | exit i=>
            obtain ⟨q,hq,he⟩:=Option.map_eq_some_iff.1 hQ
            injection he with he
            subst he
            exact ⟨.exit i,st2,g3,rfl,hq,hR,hl4⟩
          | goto i=>
            obtain ⟨q,hq,he⟩:=Option.map_eq_some_iff.1 hQ
            injection he with he
            subst he
            exact ⟨.goto i,st2,g3,rfl,hq,hR,hl4⟩
          | ret=>
            obtain ⟨q,hq,he⟩:=Option.map_eq_some_iff.1 hQ
            injection he with he
            subst he
            exact ⟨.ret,st2,g3,rfl,hq,hR,hl4⟩
          | normal=>
            exfalso
            simp only at hQ
            split at hQ
            · obtain ⟨q,hq,he⟩:=Option.map_eq_some_iff.1 hQ
              cases he
            · cases hQ
      · cases hhd:headSt n st x with
        | none=>rw [hhd] at hbody;cases hbody
        | some hd'=>
          rw [hhd] at hbody
          simp only at hbody
          obtain ⟨g2,h2,hl2,hK2⟩:=mk hs hl hc hks hhd
          refine Code.wp_mono (fun e a2 w2 hp=>?_) (ih _ hd' _ g2 a' w' hg1 hd h2 hbody)
          obtain ⟨xt,st2,g3,rfl,hQ,hR,hl3⟩:=hp
          have hl4:=hl2.transX (hl3.mono (fun _ hi=>hi) (fun _ hi=>List.mem_cons_of_mem _ hi))
          cases xt with
          | exit i=>obtain ⟨q,hq,he⟩:=Option.map_eq_some_iff.1 hQ;cases he
          | goto i=>obtain ⟨q,hq,he⟩:=Option.map_eq_some_iff.1 hQ;cases he
          | ret=>obtain ⟨q,hq,he⟩:=Option.map_eq_some_iff.1 hQ;cases he
          | normal=>
            simp only at hQ
            split at hQ
            · rename_i hko
              obtain ⟨q,hq,he⟩:=Option.map_eq_some_iff.1 hQ
              injection he with he
              subst he
              exact ⟨k,Nat.lt_succ_self k,_,st2,g3,hit',hR,hl4.lft (by intro e;cases e),hq,kept_same hid hnot (hl3.lft (by intro e;cases e)) hK2 hR.rel hko⟩
            · cases hQ

theorem pv_sound (hE:E.okF F) (c:AC) (hh:∀ p∈c.hands,HandS E.P F p.1 p.2) {R:Type} (Q:Xt->PSt->Option R) (st:PSt) (r:R) (g:Gh) (a:Act) (w:World) (hg:c.good=true) (hd:∀ d∈c.dsts,d < F.n) (h:AR F g st a w) (hv:pv E c Q st=some r) :
  c.erase.wp E.P (PostC F (· ∈ c.dsts) (· ∈ c.ids) g a w Q r) a w:=(pv_both hE c hh).1 Q st r g a w hg hd h hv

theorem run_mapM {P:Program} {α β:Type} {f:α->Sem β}:∀ (l:List α) (r:List β),(∀ (i:Nat) (x:α),l[i]? = some x -> ∃ y,r[i]? = some y /\ (f x).run P w=.ok y w)->r.length=l.length->(l.mapM f).run P w=.ok r w
 | [],r,_,hl=>by
  have:r=[]:=List.eq_nil_of_length_eq_zero (by simpa using hl)
  subst this;rfl
 | x::l,[],_,hl=>by simp at hl
 | x::l,y::r,h,hl=>by
  obtain ⟨y',hy,hr⟩:=h 0 x rfl
  obtain rfl:y=y':=by simpa using hy
  rw [List.mapM_cons,Sem.run_bind,hr,Result.andThen_ok,Sem.run_bind,run_mapM l r (fun i z hz=>h (i+1) z hz) (by simpa using hl)]
  rfl
theorem resLs_rel {P:Program} (h:AR F g st a w) {rv:ResultVar} {ag:Bool} {ts:List LT} {ls:List Leaf} (hr:resLs P st rv (ag,ts)=some ls) :
  ls.length=ts.length /\ ∃ v,(match rv with | .tmp t=>(pure (a.tmps.getD t undef):Sem Value) | .cell x t=>(do loadVar t (<- asAddr (a.tmps.getD x undef)))).run P w=.ok v w /\ RelV F g w st.O v ag ls:=by
 cases rv with
 | tmp t=>
  have hr':(match st.φ t with | .w ag' ls=>(match bEq ag ag'&&Nat.beq ls.length ts.length with | true=>some ls | false=>none) | _=>none)=some ls:=hr
  split at hr'
  ·rename_i ag' l hp
   split at hr'
   ·rename_i hb
    simp only [Bool.and_eq_true] at hb
    injection hr' with e
    subst e
    have h1:=h.rel.slots t
    rw [hp] at h1
    rw [bEq_iff.1 hb.1]
    exact ⟨Nat.eq_of_beq_eq_true hb.2,_,rfl,h1⟩
   ·cases hr'
  ·cases hr'
 | cell x t=>
  have hr':(match st.φ x with
   | .loc k off=>match st.L k with
    | some (_,ls)=>match atLs P t ls off,bEq ag (isAg P t)&&(P.underlying t).isSome with | some vs,true=>(match Nat.beq vs.length ts.length with | true=>some vs | false=>none) | _,_=>none
    | none=>none
   | _=>none)=some ls:=hr
  split at hr'
  case h_2=>cases hr'
  rename_i k off hp
  split at hr'
  case h_2=>cases hr'
  rename_i σ l hL
  split at hr'
  case h_2=>cases hr'
  rename_i vs hvs hb
  simp only [Bool.and_eq_true] at hb
  split at hr'
  case h_2=>cases hr'
  rename_i hlen
  injection hr' with e
  subst e
  have h1:=h.rel.slots x
  rw [hp] at h1
  have hx:a.tmps.getD x undef=.pointer (some ⟨(g.ρ k).1,(g.ρ k).2+off,none⟩):=h1
  obtain ⟨cs,hr1,hc⟩:=loc_cells h.rel hL
  obtain ⟨p,q,rfl,hsz,hh⟩:=atLs_some hvs
  obtain ⟨c1,c2,rfl,hr2,hr3⟩:=repLs_split hr1
  have hl:c1.length=off:=(repLs_len hr2).trans hsz
  obtain ⟨v,hrun,hrel⟩:=load_at (P:=P) (ad:=⟨(g.ρ k).1,(g.ρ k).2+off,none⟩) hb.2 (fun j x hj=>by
   rw [add_at,Nat.add_assoc]
   exact hc _ x (by rw [List.getElem?_append_right (by omega),hl,Nat.add_sub_cancel_left];exact hj)) hr3 hh
  refine ⟨Nat.eq_of_beq_eq_true hlen,v,?_,by rw [bEq_iff.1 hb.1];exact hrel⟩
  simp [hx,asAddr,hrun]
def resVal (a:Act):ResultVar->Sem Value
 | .tmp t=>pure (a.tmps.getD t undef)
 | .cell x t=>do loadVar t (<- asAddr (a.tmps.getD x undef))
theorem resAll_rel {P:Program} (h:AR F g st a w):∀ {rvs:List ResultVar} {rs:List (Bool×List LT)} {la:List Leaf},resAll P st rvs rs=some la ->
  la.length=(rs.flatMap (·.2)).length /\ ∃ us:List Value,us.length=rs.length /\ us.length=rvs.length /\ (∀ (i:Nat) (x:ResultVar),rvs[i]? = some x -> ∃ y,us[i]? = some y /\ (resVal a x).run P w=.ok y w) /\
   ∀ (rest:List Leaf) (i:Nat),i < rs.length -> ∃ ag l,resAt rs (la++rest) i=.w ag l /\ RelV F g w st.O (us.getD i undef) ag l
 | [],[],la,hr=>by
  have:la=[]:=(Option.some.inj (show some []=some la from hr)).symm
  subst this
  exact ⟨rfl,[],rfl,rfl,fun i x hx=>by simp at hx,fun rest i hi=>by simp at hi⟩
 | [],_::_,_,hr=>by cases hr
 | _::_,[],_,hr=>by cases hr
 | rv::rvs,(ag,ts)::rs,la,hr=>by
  unfold resAll at hr
  split at hr
  ·rename_i l1 l2 h1 h2
   injection hr with hr
   subst hr
   obtain ⟨q1,v,q2,q3⟩:=resLs_rel h h1
   obtain ⟨i1,us,i2,i3,i4,i5⟩:=resAll_rel h h2
   refine ⟨by simp [q1,i1],v::us,by simp [i2],by simp [i3],fun i x hx=>?_,fun rest i hi=>?_⟩
   ·cases i with
    | zero=>
     simp only [List.getElem?_cons_zero,Option.some.injEq] at hx
     subst hx
     refine ⟨v,rfl,?_⟩
     cases rv <;> exact q2
    | succ i=>exact i4 i x (by simpa using hx)
   ·cases i with
    | zero=>
     refine ⟨ag,l1,?_,q3⟩
     show PV.w ag ((l1++l2++rest).take ts.length)=_
     rw [<-q1,List.append_assoc,List.take_left]
    | succ i=>
     obtain ⟨ag',l,e1,e2⟩:=i5 rest i (by simpa using hi)
     refine ⟨ag',l,?_,e2⟩
     show resAt rs ((l1++l2++rest).drop ts.length) i=_
     rw [<-q1,List.append_assoc,List.drop_left];exact e1
  ·cases hr
theorem inoutLs_at:∀ {ps:List Par} {j:Nat} {lb:List Leaf},inoutLs st ps j=some lb -> ∀ (rest:List Leaf) (k:Nat) (l:List Leaf),inoutAt ps (lb++rest) k=some l -> ∃ σ,st.L (j+k)=some (σ,l)
 | [],j,lb,h,rest,k,l,hk=>by cases hk
 | .v ag ts::r,j,lb,h,rest,k,l,hk=>by
  cases k with
  | zero=>cases hk
  | succ k=>
   obtain ⟨σ,hs⟩:=inoutLs_at (ps:=r) (j:=j+1) h rest k l hk
   exact ⟨σ,by rw [<-hs];congr 1;omega⟩
 | .m ts::r,j,lb,h,rest,k,l,hk=>by
  unfold inoutLs at h
  split at h
  ·rename_i σ ls q hL hr
   split at h
   ·rename_i hb
    have hl:ls.length=ts.length:=Nat.eq_of_beq_eq_true hb
    injection h with h
    subst h
    cases k with
    | zero=>
     have hk':some ((ls++q++rest).take ts.length)=some l:=hk
     rw [<-hl,List.append_assoc,List.take_left] at hk'
     injection hk' with e
     subst e
     exact ⟨σ,hL⟩
    | succ k=>
     have hk':inoutAt r ((ls++q++rest).drop ts.length) k=some l:=hk
     rw [<-hl,List.append_assoc,List.drop_left] at hk'
     obtain ⟨σ,hs⟩:=inoutLs_at (ps:=r) (j:=j+1) hr rest k l hk'
     exact ⟨σ,by rw [<-hs];congr 1;omega⟩
   ·cases h
  ·cases h
theorem resAt_same {σ:Tok->Tok->Prop}:∀ {rs:List (Bool×List LT)} {q q':List Leaf} {i:Nat} {ag:Bool} {l:List Leaf},SameLs σ q q'->resAt rs q i=.w ag l -> ∃ l',resAt rs q' i=.w ag l' /\ SameLs σ l l'
 | [],_,_,_,_,_,_,h=>by cases h
 | (ag0,ts)::r,q,q',0,ag,l,hs,h=>by
  have h':PV.w ag0 (q.take ts.length)=.w ag l:=h
  injection h' with e1 e2
  subst e1;subst e2
  exact ⟨_,rfl,hs.take _⟩
 | (ag0,ts)::r,q,q',i+1,ag,l,hs,h=>resAt_same (rs:=r) (hs.drop _) h
theorem resAt_out:∀ {rs:List (Bool×List LT)} {q:List Leaf} {i:Nat},rs.length<=i->resAt rs q i=.dead
 | [],_,_,_=>rfl
 | _::_,_,0,h=>by simp at h
 | (_,ts)::r,q,i+1,h=>resAt_out (rs:=r) (by simpa using h)
def exitG (g:Gh) (ks:List Tok):Gh:=⟨g.C,fun t=>match t with | .hd 0 j=>g.blk (ks.getD j .zero) | _=>none,g.ρ,fun _ _=>[]⟩
theorem exit_rel {P:Program} {s:Sig} {rvs:List ResultVar} {y:s.out.D} (h:AR F g st a w) (hr:retP P rvs s st=some y) :
  ∃ (us:List Value) (g':Gh) (stX:PSt),us.length=s.rs.length /\ us.length=rvs.length /\ (∀ (i:Nat) (x:ResultVar),rvs[i]? = some x -> ∃ y,us[i]? = some y /\ (resVal a x).run P w=.ok y w) /\ exitSt s y=some stX /\ MRel F g' stX (fun i=>us.getD i undef) w /\ g'.ρ=g.ρ:=by
 unfold retP at hr
 split at hr
 case h_2=>cases hr
 rename_i la lb hla hlb
 split at hr
 case h_2=>cases hr
 rename_i ks xs htake0
 obtain ⟨htake,hno⟩:=takeAllN_some htake0
 split at hr
 case h_2=>cases hr
 rename_i hdt
 have hun:unpackD (s.outs.map LT.ty) y=xs:=unpack_pack _ _ _ hr
 obtain ⟨q1,us,q2,q3,q4,q5⟩:=resAll_rel h hla
 obtain ⟨osX,hmk⟩:=mk_some (lab:=Tok.hd 0) (j:=0) htake
 obtain ⟨hsame,_⟩:=take_mk (fun l _=>.inr hno) htake hmk
 have hex:exitSt s y=some ⟨resAt s.rs osX,fun k=>match inoutAt s.ps (osX.drop s.nres) k with | some l=>some (0,l) | none=>none,fun t=>hasT (.zero::labs (Tok.hd 0) s.outs 0) t,[],[],[]⟩:=by
  unfold exitSt
  rw [hun,hmk]
  rfl
 have T:Turn F g st.O F (exitG g ks) (fun t=>hasT (.zero::labs (Tok.hd 0) s.outs 0) t) (fun k k'=>TokAt s.outs ks (Tok.hd 0) 0 k k' /\ st.O k=true):=by
  refine ⟨rfl,fun k k' hσ _=>⟨hσ.2,?_⟩,fun k k' b o _ _ _ _ hw=>hw⟩
  obtain ⟨⟨i,E,e,h1,h2,rfl⟩,_⟩:=hσ
  show g.blk (ks.getD (0+i) .zero)=_
  rw [List.getD_eq_getElem?_getD,Nat.zero_add,h2];rfl
 have liveH:∀ k,hasT (.zero::labs (Tok.hd 0) s.outs 0) k=true->k=.zero \/ ∃ i k0,k=.hd 0 i /\ ks[i]? = some k0 /\ st.O k0=true /\ (exitG g ks).blk k=g.blk k0:=fun k hk=>by
  rcases List.mem_cons.1 (hasT_iff.1 hk) with rfl | hm
  ·exact .inl rfl
  ·obtain ⟨i,E,e,h1,rfl⟩:=labs_mem.1 hm
   obtain ⟨k0,r1,r2⟩:=take_ks htake i E e h1
   refine .inr ⟨i,k0,by rw [Nat.zero_add],r1,r2,?_⟩
   show g.blk (ks.getD (0+i) .zero)=_
   rw [List.getD_eq_getElem?_getD,Nat.zero_add,r1];rfl
 have locH:∀ k y,(match inoutAt s.ps (osX.drop s.nres) k with | some l=>some ((0:Nat),l) | none=>none)=some y->y.1=0 /\ ∃ σ l,st.L k=some (σ,l) /\ SameLs (fun k k'=>TokAt s.outs ks (Tok.hd 0) 0 k k' /\ st.O k=true) l y.2:=fun k y hy=>by
  split at hy
  ·rename_i l' hl'
   injection hy with hy
   subst hy
   obtain ⟨l,h1,h2⟩:=inoutAt_same (hsame.drop s.nres) hl'
   have hnr:s.nres=la.length:=by unfold Sig.nres;rw [q1]
   rw [hnr,List.drop_left] at h1
   obtain ⟨σ,h3⟩:=inoutLs_at hlb [] k l (by rw [List.append_nil];exact h1)
   rw [Nat.zero_add] at h3
   exact ⟨rfl,σ,l,h3,h2⟩
  ·cases hy
 refine ⟨us,exitG g ks,_,q2,q3,q4,hex,⟨h.rel.fr,fun i=>?_,fun k σ l hL=>?_,fun k σ l hL hσ=>?_,fun t b hb=>by (cases hb),fun i t want ag l hs=>?_,fun d hd=>by (cases hd),fun i k hk=>?_,rfl,fun k k' b hk1 hk2 hb hb'=>?_,fun k b j y hk1 hb hL=>?_,fun k b hk1 hb=>?_,fun k b hk1 hb=>?_,fun j j' y y' hj hj' he=>?_⟩,rfl⟩
 ·by_cases hi:i < s.rs.length
  ·obtain ⟨ag,l,e1,e2⟩:=q5 lb i hi
   obtain ⟨l',e3,e4⟩:=resAt_same hsame e1
   show RelP F _ w _ _ _ (resAt s.rs osX i)
   rw [e3]
   exact e2.turn T e4
  ·show RelP F _ w _ _ _ (resAt s.rs osX i)
   rw [resAt_out (by omega)];trivial
 ·obtain ⟨e,σ1,l1,h1,h2⟩:=locH k (σ,l) hL
  exact (h.rel.locals k σ1 l1 h1).turn T (fun _ _ hw=>hw) h2
 ·exact (hσ (locH k (σ,l) hL).1).elim
 ·by_cases hi:i < s.rs.length
  ·obtain ⟨ag',l',e1,e2⟩:=q5 lb i hi
   obtain ⟨l2,e3,e4⟩:=resAt_same hsame e1
   have hs':resAt s.rs osX i=.spec t want ag l:=hs
   rw [e3] at hs';cases hs'
  ·have hs':resAt s.rs osX i=.spec t want ag l:=hs
   rw [resAt_out (by omega)] at hs';cases hs'
 ·by_cases hi:i < s.rs.length
  ·obtain ⟨ag',l',e1,e2⟩:=q5 lb i hi
   obtain ⟨l2,e3,e4⟩:=resAt_same hsame e1
   have hk':k∈keyP (resAt s.rs osX i):=hk
   rw [e3] at hk';cases hk'
  ·have hk':k∈keyP (resAt s.rs osX i):=hk
   rw [resAt_out (by omega)] at hk';cases hk'
 ·rcases liveH k hk1 with rfl | ⟨i,k0,rfl,r1,r2,r3⟩
  ·cases hb
  rcases liveH k' hk2 with rfl | ⟨i',k0',rfl,r1',r2',r3'⟩
  ·cases hb'
  rw [r3] at hb;rw [r3'] at hb'
  have e1:=h.rel.blkI k0 k0' b r2 r2' hb hb'
  subst e1
  have hz:k0≠.zero:=fun e=>by rw [e,h.rel.blk0] at hb;cases hb
  rw [distinct_at hdt r1 r1' hz]
 ·rcases liveH k hk1 with rfl | ⟨i,k0,rfl,r1,r2,r3⟩
  ·cases hb
  rw [r3] at hb
  obtain ⟨_,σ1,l1,h1,_⟩:=locH j y hL
  exact h.rel.blkL k0 b j _ r2 hb h1
 ·rcases liveH k hk1 with rfl | ⟨i,k0,rfl,r1,r2,r3⟩
  ·cases hb
  rw [r3] at hb
  exact h.rel.blkS k0 b r2 hb
 ·rcases liveH k hk1 with rfl | ⟨i,k0,rfl,r1,r2,r3⟩
  ·cases hb
  rw [r3] at hb
  exact h.rel.blkW k0 b r2 hb
 ·obtain ⟨_,σ1,l1,h1,_⟩:=locH j y hj
  obtain ⟨_,σ2,l2,h2,_⟩:=locH j' y' hj'
  exact h.rel.ρI j j' _ _ h1 h2 he
theorem exit_relF {P:Program} {s:Sig} {rvs:List ResultVar} {y:s.out.D} (h:AR F g st a w) (hr:retF P rvs s st=some y) :
  ∃ (us:List Value) (g':Gh) (stX:PSt),us.length=s.rs.length /\ us.length=rvs.length /\ (∀ (i:Nat) (x:ResultVar),rvs[i]? = some x -> ∃ y,us[i]? = some y /\ (resVal a x).run P w=.ok y w) /\ exitSt s y=some stX /\ MRel F g' stX (fun i=>us.getD i undef) w /\ g'.ρ=g.ρ:=by
 unfold retF at hr
 split at hr
 ·exact exit_rel h hr
 ·rename_i k K _
  obtain ⟨hall,hr⟩:=chk_some hr
  have hA:AR F (lendG g st (k::K)) (lendSt (k::K) (resTmps rvs) st) a w:=⟨h.size,h.defers,lend_rel (k::K) _ h.rel fun i hi=>List.all_eq_true.1 hall i (hasN_iff.1 hi)⟩
  have h2:=exit_rel hA hr
  exact h2
theorem annot_erase {A:List (Nat×Ann)}:∀ (c:Code) (k:Nat) (ac:AC) (k':Nat),annot A c k=some (ac,k')->ac.erase=c:=by
 intro c
 induction c with
 | skip=>intro k ac k' h;simp only [annot,Option.some.injEq,Prod.mk.injEq] at h;rw [<-h.1];rfl
 | region id ops d=>intro k ac k' h;simp only [annot,Option.some.injEq,Prod.mk.injEq] at h;rw [<-h.1];rfl
 | exit id=>intro k ac k' h;simp only [annot,Option.some.injEq,Prod.mk.injEq] at h;rw [<-h.1];rfl
 | ret=>intro k ac k' h;simp only [annot,Option.some.injEq,Prod.mk.injEq] at h;rw [<-h.1];rfl
 | label l=>intro k ac k' h;simp only [annot,Option.some.injEq,Prod.mk.injEq] at h;rw [<-h.1];rfl
 | goto l=>intro k ac k' h;simp only [annot,Option.some.injEq,Prod.mk.injEq] at h;rw [<-h.1];rfl
 | scope b ih=>
  intro k ac k' h
  unfold annot at h
  split at h
  ·rename_i m b' k1 h0 h1
   simp only [Option.some.injEq,Prod.mk.injEq] at h
   rw [<-h.1]
   simp only [AC.erase,ih _ _ _ h1]
  ·cases h
 | seq x y ihx ihy=>
  intro k ac k' h
  unfold annot at h
  split at h
  ·rename_i a' k1 h1
   split at h
   ·rename_i b' k2 h2
    split at h <;>
    ·simp only [Option.some.injEq,Prod.mk.injEq] at h
     rw [<-h.1]
     simp only [AC.erase,ihx _ _ _ h1,ihy _ _ _ h2]
   ·cases h
  ·cases h
 | cond c x y ihx ihy=>
  intro k ac k' h
  unfold annot at h
  split at h
  ·rename_i a' k1 h1
   split at h
   ·rename_i b' k2 h2
    simp only [Option.some.injEq,Prod.mk.injEq] at h
    rw [<-h.1]
    simp only [AC.erase,ihx _ _ _ h1,ihy _ _ _ h2]
   ·cases h
  ·cases h
 | block id b ih=>
  intro k ac k' h
  unfold annot at h
  split at h
  ·rename_i b' k1 h1
   simp only [Option.some.injEq,Prod.mk.injEq] at h
   rw [<-h.1]
   simp only [AC.erase,ih _ _ _ h1]
  ·cases h
 | loop b ih=>
  intro k ac k' h
  unfold annot at h
  split at h
  ·rename_i m b' k1 h0 h1
   simp only [Option.some.injEq,Prod.mk.injEq] at h
   rw [<-h.1]
   simp only [AC.erase,ih _ _ _ h1]
  ·cases h
 | _=>intro k ac k' h;cases h
theorem annot_hands {A:List (Nat×Ann)}:∀ (c:Code) (k:Nat) (ac:AC) (k':Nat),annot A c k=some (ac,k')->ac.hands=[]:=by
 intro c
 induction c with
 | skip=>intro k ac k' h;simp only [annot,Option.some.injEq,Prod.mk.injEq] at h;rw [<-h.1];rfl
 | region id ops d=>intro k ac k' h;simp only [annot,Option.some.injEq,Prod.mk.injEq] at h;rw [<-h.1];rfl
 | exit id=>intro k ac k' h;simp only [annot,Option.some.injEq,Prod.mk.injEq] at h;rw [<-h.1];rfl
 | ret=>intro k ac k' h;simp only [annot,Option.some.injEq,Prod.mk.injEq] at h;rw [<-h.1];rfl
 | label l=>intro k ac k' h;simp only [annot,Option.some.injEq,Prod.mk.injEq] at h;rw [<-h.1];rfl
 | goto l=>intro k ac k' h;simp only [annot,Option.some.injEq,Prod.mk.injEq] at h;rw [<-h.1];rfl
 | scope b ih=>
  intro k ac k' h
  unfold annot at h
  split at h
  ·rename_i m b' k1 h0 h1
   simp only [Option.some.injEq,Prod.mk.injEq] at h
   rw [<-h.1]
   simp only [AC.hands,ih _ _ _ h1]
  ·cases h
 | seq x y ihx ihy=>
  intro k ac k' h
  unfold annot at h
  split at h
  ·rename_i a' k1 h1
   split at h
   ·rename_i b' k2 h2
    split at h <;>
    ·simp only [Option.some.injEq,Prod.mk.injEq] at h
     rw [<-h.1]
     simp only [AC.hands,ihx _ _ _ h1,ihy _ _ _ h2,List.append_nil]
   ·cases h
  ·cases h
 | cond c x y ihx ihy=>
  intro k ac k' h
  unfold annot at h
  split at h
  ·rename_i a' k1 h1
   split at h
   ·rename_i b' k2 h2
    simp only [Option.some.injEq,Prod.mk.injEq] at h
    rw [<-h.1]
    simp only [AC.hands,ihx _ _ _ h1,ihy _ _ _ h2,List.append_nil]
   ·cases h
  ·cases h
 | block id b ih=>
  intro k ac k' h
  unfold annot at h
  split at h
  ·rename_i b' k1 h1
   simp only [Option.some.injEq,Prod.mk.injEq] at h
   rw [<-h.1]
   simp only [AC.hands,ih _ _ _ h1]
  ·cases h
 | loop b ih=>
  intro k ac k' h
  unfold annot at h
  split at h
  ·rename_i m b' k1 h0 h1
   simp only [Option.some.injEq,Prod.mk.injEq] at h
   rw [<-h.1]
   simp only [AC.hands,ih _ _ _ h1]
  ·cases h
 | _=>intro k ac k' h;cases h
theorem erase_hand (r:Nat) (h:PSt->Option (Bool×PSt)):∀ ac:AC,(ac.withHand r h).erase=ac.erase:=by
 intro ac
 induction ac with
 | seq a b iha ihb=>
  cases a with
  | region id ops d=>
   unfold AC.withHand
   split
   ·rfl
   ·show Code.seq _ (AC.withHand r h b).erase=_
    rw [ihb];rfl
  | _=>exact (congrArg (fun z=>Code.seq z (AC.erase (AC.withHand r h b))) iha).trans (congrArg (Code.seq _) ihb)
 | join n a b iha ihb=>exact (congrArg (fun z=>Code.seq z (AC.erase (AC.withHand r h b))) iha).trans (congrArg (Code.seq _) ihb)
 | cond c a b iha ihb=>exact (congrArg (fun z=>Code.cond c z (AC.erase (AC.withHand r h b))) iha).trans (congrArg (Code.cond c _) ihb)
 | block id b ih=>exact congrArg (Code.block id) ih
 | loop n b ih=>exact congrArg Code.loop ih
 | scope n b ih=>exact congrArg Code.scope ih
 | _=>rfl
theorem results_run {P:Program} {fn:Func} {us:List Value} (hl:us.length=fn.results.toList.length) (h:∀ (i:Nat) (x:ResultVar),fn.results.toList[i]? = some x -> ∃ y,us[i]? = some y /\ (resVal a x).run P w=.ok y w):(results fn a.tmps).run P w=.ok (retV us) w:=by
 have key:(results fn a.tmps).run P w=.ok (if h:(⟨us⟩:Array Value).size=1 then (⟨us⟩:Array Value)[0] else .tuple ⟨us⟩) w:=by
  unfold results
  rw [Array.mapM_eq_mapM_toList,Sem.run_bind,Sem.run_map,run_mapM fn.results.toList us (fun i x hx=>?_) hl]
  ·rfl
  obtain ⟨y,hy,hr⟩:=h i x hx
  exact ⟨y,hy,by cases x <;> exact hr⟩
 rw [key]
 match us with
 | []=>rfl
 | [_]=>rfl
 | _::_::_=>rfl
theorem fn_sound {T:Tab} (hE:E.ok T) {A:List (Nat×Ann)} {f:FuncId} {fn:Func} {s:Sig} (hf:E.P.funcs[f]? = some fn):SoundFn E.P T f s ⟨pvFn E A fn s⟩:=by
  intro F g st xs y tmf w args hT hent happ hrel hw hn hsz htm
  have hv:=appF_curry _ _ _ _ happ
  unfold pvFnL at hv
  rw [hent] at hv
  split at hv
  case h_2=>cases hv
  rename_i c st0 hb he
  injection he with he
  subst he
  split at hv
  case h_2=>cases hv
  rename_i ac k hac
  split at hv
  case h_2=>cases hv
  rename_i hgd
  simp only [Bool.and_eq_true] at hgd
  obtain ⟨⟨⟨⟨hg1,hg2⟩,hg3⟩,hg4⟩,hg5⟩:=hgd
  have hFn:=hn fn hf
  have hle:args.size<=fn.ntmps:=by rw [hsz];rw [Nat.ble_eq] at hg3;exact hg3
  have hdst:∀ d∈ac.dsts,d < F.n:=fun d hd=>by
    have:=List.all_eq_true.1 hg2 d hd
    rw [Nat.blt_eq] at this
    omega
  have htm':tm { tmps:=args++Array.replicate (fn.ntmps - args.size) undef,defers:=[] }=tmf:=by
    funext i
    rw [htm i]
    unfold tm
    simp only [Array.getD_eq_getD_getElem?,Array.getElem?_append]
    by_cases hlt:i < args.size
    · simp [hlt]
    · rw [if_neg hlt,Array.getElem?_eq_none (show args.size<=i by omega)]
      simp only [Array.getElem?_replicate,Option.getD_none]
      split <;> rfl
  have hAR:AR F g st { tmps:=args++Array.replicate (fn.ntmps - args.size) undef,defers:=[] } w:=⟨by simp;omega,rfl,by rw [htm'];exact hrel⟩
  have he:=annot_erase c 0 ac k hac
  refine calls_of_wp hf hb ?_
  have hs:=pv_sound ⟨T,hE,hT⟩ ac (by rw [annot_hands c 0 ac k hac];intro p hp;cases hp) _ st y g _ w hg1 hdst hAR hv
  rw [he] at hs
  have fin : ∀ {x a' w' g' st'}, retF E.P fn.results.toList s st' = some y -> AR F g' st' a' w' -> LftX x (· ∈ ac.dsts) (· ∈ ac.ids) g { tmps := args ++ Array.replicate (fn.ntmps - args.size) undef, defers := [] } w g' a' w' ->
      a'.defers=[] /\ ∃ v,(results fn a'.tmps).run E.P w'=.ok v w' /\ ∃ us g' st',Ending.returned v=.returned (retV us) /\ us.length=s.rs.length /\ exitSt s y=some st' /\ MRel F g' st' (fun i=>us.getD i undef) w' /\ ∀ k,isM s.ps k=true->g'.ρ k=g.ρ k:=fun {x a' w' g' st'} hr hA hl=>by
    obtain ⟨us,g2,stX,r1,r2,r3,r4,r5,r6⟩:=exit_relF hA hr
    refine ⟨hA.defers,retV us,results_run r2 r3,us,g2,stX,rfl,r1,r4,r5,fun k hk=>?_⟩
    rw [r6]
    refine hl.ρ k fun hm=>?_
    have hlt:k < s.ps.length:=by
      obtain ⟨ts,hts⟩:=isM_iff.1 hk
      exact (List.getElem?_eq_some_iff.1 hts).1
    have:=List.all_eq_true.1 hg5 k (List.mem_range.2 hlt)
    rw [hk,hasN_iff.2 hm] at this
    cases this
  refine Code.wp_mono (fun e a' w' hp=>?_) hs
  obtain ⟨x,st',g',rfl,hQ,hr,hl⟩:=hp
  cases x with
  | exit i=>cases hQ
  | normal=>exact fin hQ hr hl
  | ret=>exact fin hQ hr hl
  | goto i=>cases hQ
end
end Pv
end Go.Proofs.YtgfmfgombmpodaaGreatDoor
namespace Go.Proofs.YtgfmfgombmpodaaGreatDoor
open Go.ChangeShapes Go.WideShapes Go.ChangeAt Go.RowKit Go.Deep
open Go.ChangeMaps (open_string shut_string)
namespace Pv
set_option linter.unusedVariables false
def layS (f:TypeId->Option Ty):List Field->Nat->Option (List Ty)
 | [],_=>some []
 | x::r,o=>match Nat.beq x.offset o,f x.type with
  | true,some t=>match layS f r (o+t.size) with | some l=>some (t::l) | none=>none
  | _,_=>none
def lay1 (P:Program) (f:TypeId->Option Ty) (t:TypeId):Option Ty:=match P.underlying t with
 | some .bool=>some .bool
 | some (.int k)=>some (.int k)
 | some .string=>some .str
 | some (.slice e)=>(f e).map .sl
 | some (.array m e)=>(f e).map (.arr m)
 | some (.struct fs)=>(layS f fs.toList 0).map prs
 | _=>none
def lay (P:Program):Nat->TypeId->Option Ty
 | 0,_=>none
 | n+1,t=>match lay1 P (lay P n) t with
  | some τ=>match Nat.beq (P.cellsOf t) τ.size with | true=>some τ | false=>none
  | none=>none
theorem choose_l {α:Type} {p:Nat->α->Prop}:∀ (n:Nat),(∀ i,i < n -> ∃ y,p i y) -> ∃ l:List α,l.length=n /\ ∀ i y,l[i]? = some y->p i y
 | 0,_=>⟨[],rfl,fun i y h=>by simp at h⟩
 | n+1,h=>by
  obtain ⟨l,h1,h2⟩:=choose_l n fun i hi=>h i (by omega)
  obtain ⟨y,hy⟩:=h n (by omega)
  refine ⟨l++[y],by simp [h1],fun i z hz=>?_⟩
  rcases Nat.lt_or_ge i l.length with hlt | hge
  ·rw [List.getElem?_append_left hlt] at hz;exact h2 i z hz
  ·rw [List.getElem?_append_right hge] at hz
   cases hi:i - l.length with
   | zero=>
    rw [hi] at hz
    simp at hz
    subst hz
    rw [show i=n by omega];exact hy
   | succ k=>rw [hi] at hz;simp at hz
section
variable {H : Type} {enc : TypeId × Value -> H} {P : Program} {w : World} {C : Com} {spare : Nat -> Bool} {held : Bool}
def Opens (enc:TypeId×Value->H) (P:Program) (w:World) (C:Com) (spare:Nat->Bool) (held:Bool) (t:TypeId) (τ:Ty):Prop:=
 P.cellsOf t=τ.size /\ ∀ fuel cs x,DataW.trod enc P w 0 spare held fuel t cs=some x -> ∃ y:τ.D,RepD w C τ y cs
theorem opens_fields {f:TypeId->Option Ty} (hf:∀ t τ,f t=some τ->Opens enc P w C spare held t τ):∀ (fs:List Field) (o:Nat) (τs:List Ty) (cs:List Value),layS f fs o=some τs ->
  (∀ x∈fs,∃ n z,DataW.trod enc P w 0 spare held n x.type ((cs.drop x.offset).take (P.cellsOf x.type))=some z) -> ∃ y:(prs τs).D,RepD w C (prs τs) y ((cs.drop o).take (prs τs).size)
 | [],o,τs,cs,h,_=>by
  injection h with h
  subst h
  exact ⟨(),by rw [show (prs []).size=0 from rfl,List.take_zero];rfl⟩
 | x::r,o,τs,cs,h,hx=>by
  unfold layS at h
  split at h
  case h_2=>cases h
  rename_i t ho ht
  split at h
  case h_2=>cases h
  rename_i l hl
  injection h with h
  subst h
  have ho:=Nat.eq_of_beq_eq_true ho
  obtain ⟨y2,h2⟩:=opens_fields hf r (o+t.size) l cs hl fun z hz=>hx z (by simp [hz])
  obtain ⟨hc,hop⟩:=hf _ _ ht
  obtain ⟨n,z,hz⟩:=hx x (by simp)
  obtain ⟨y1,h1⟩:=hop _ _ _ hz
  rw [ho,hc] at h1
  cases l with
  | nil=>exact ⟨y1,h1⟩
  | cons u us=>
   refine ⟨(y1,y2),_,_,?_,h1,h2⟩
   rw [show (prs (t::u::us)).size=t.size+(prs (u::us)).size from rfl,List.take_add,List.drop_drop]
theorem lay_open (hC:∀ a u,w.cell? a=some u->C a.block a.off):∀ (n:Nat) (t:TypeId) (τ:Ty),lay P n t=some τ->Opens enc P w C spare held t τ
 | 0,_,_,h=>by cases h
 | n+1,t,τ,h=>by
  unfold lay at h
  split at h
  case h_2=>cases h
  rename_i τ' h1
  split at h
  case h_2=>cases h
  rename_i hb
  injection h with h
  subst h
  have hsz:=Nat.eq_of_beq_eq_true hb
  refine ⟨hsz,fun fuel cs x hx=>?_⟩
  unfold lay1 at h1
  split at h1
  ·rename_i ht
   injection h1 with h1
   subst h1
   obtain ⟨b,rfl,_⟩:=DataW.trod_bool ht hx
   exact ⟨b,rfl⟩
  ·rename_i k ht
   injection h1 with h1
   subst h1
   obtain ⟨q,rfl,_,hq⟩:=DataW.trod_int ht hx
   exact ⟨q,rfl,hq⟩
  ·rename_i ht
   injection h1 with h1
   subst h1
   obtain ⟨s,rfl,_,hs⟩:=DataW.trod_string ht hx
   exact ⟨bytesL s,s,rfl,rfl,hs⟩
  ·rename_i e ht
   obtain ⟨τe,he,rfl⟩:=Option.map_eq_some_iff.1 h1
   obtain ⟨hce,hop⟩:=lay_open hC n e τe he
   rcases open_slice ht hx with ⟨rfl,_⟩ | ⟨a,len,cap,m,n',D,Pl,rfl,_,hl,hm,hmm,_,hall⟩
   ·exact ⟨([]:List τe.D),none,0,0,rfl,rfl,Nat.le_refl _,by unfold maxLen;omega,fun i x hi=>by simp [gt] at hi⟩
   ·have hlm:len<=m:=by rw [hmm];split <;> omega
    obtain ⟨l,hl1,hl2⟩:=choose_l (p:=fun i (y:τe.D)=>∃ us,us.length=τe.size /\ (∀ j u,us[j]? = some u->w.cell? (a.add (i*τe.size+j))=some u /\ C a.block (a.off+(i*τe.size+j))) /\ RepD w C τe y us) len fun i hi=>by
     obtain ⟨cs',g1,g2⟩:=hall i (by omega)
     obtain ⟨y,hy⟩:=hop _ _ _ g2
     refine ⟨y,cs',hy.len,fun j u hj=>?_,hy⟩
     have hj':j < P.cellsOf e:=by
      have:=(List.getElem?_eq_some_iff.1 hj).1
      rw [hy.len] at this
      omega
     have hcell:=((World.cells?_some g1).2.2 j hj').trans hj
     rw [add_add,hce] at hcell
     refine ⟨hcell,?_⟩
     have:=hC _ _ hcell
     rwa [add_block,add_off] at this
    refine ⟨l,some a,len,cap,rfl,hl1,hl,hm,fun i y hi=>?_⟩
    obtain ⟨us,g1,g2,g3⟩:=hl2 i y hi
    exact ⟨a,us,rfl,g1,g2,g3⟩
  ·rename_i m e ht
   obtain ⟨τe,he,rfl⟩:=Option.map_eq_some_iff.1 h1
   obtain ⟨hce,hop⟩:=lay_open hC n e τe he
   obtain ⟨xs,m',_,_,hcs,hxl,hall⟩:=DataW.trod_array ht hx
   obtain ⟨l,hl1,hl2⟩:=choose_l (p:=fun i (y:τe.D)=>RepD w C τe y ((cs.drop (i*τe.size)).take τe.size)) m fun i hi=>by
    have:=hall i hi
    rw [List.getElem?_eq_getElem (by omega),hce] at this
    exact hop _ _ _ this
   exact ⟨l,hl1,by rw [hcs,hsz];rfl,fun i y hi=>hl2 i y hi⟩
  ·rename_i fs ht
   obtain ⟨τs,hs,rfl⟩:=Option.map_eq_some_iff.1 h1
   obtain ⟨xs,m',_,_,hcs,hxl,hall⟩:=DataW.trod_struct ht hx
   obtain ⟨y,hy⟩:=opens_fields (fun t τ h=>lay_open hC n t τ h) fs.toList 0 τs cs hs fun f hf=>by
    obtain ⟨i,hi,rfl⟩:=List.mem_iff_getElem.1 hf
    have hi':i < fs.size:=by simpa using hi
    have:=hall i fs[i] (by simp [hi'])
    rw [List.getElem?_eq_getElem (by omega)] at this
    exact ⟨m',_,by simpa using this⟩
   rw [List.drop_zero,List.take_of_length_le (by omega)] at hy
   exact ⟨y,hy⟩
  ·cases h1
theorem okWide_array {m:Nat} {e t:TypeId} {v:Value} {r:Reach} {b0:Nat} (ht:P.underlying t=some (.array m e)) (h:Value.okWide P w r b0 t v):∃ cs,v=.agg cs /\ cs.size=P.cellsOf t:=by
 simp only [Value.okWide,ht] at h
 obtain ⟨cs,h1,h2,_⟩:=h
 exact ⟨cs,h1,h2⟩
theorem arg_open (hC:∀ a u,w.cell? a=some u->C a.block a.off) {n:Nat} {t:TypeId} {τ:Ty} {v:Value} {d:DataW H} {ps:List MemPlace} {r:Reach} {b0:Nat} (hl:lay P n t=some τ) (hval:Value.okWide P w r b0 t v) (hd:DataW.Trod enc P w 0 spare held t v d ps) :
  ∃ (y:τ.D) (cs:List Value),RepD w C τ y cs /\ match isAg P t with | true=>v=.agg ⟨cs⟩ | false=>cs=[v]:=by
 obtain ⟨fuel,hf⟩:=hd
 obtain ⟨y,hy⟩:=(lay_open (enc:=enc) (spare:=spare) (held:=held) hC n t τ hl).2 _ _ _ hf
 refine ⟨y,_,hy,?_⟩
 cases n with
 | zero=>cases hl
 | succ n=>
  unfold lay at hl
  split at hl
  case h_2=>cases hl
  rename_i τ' h1
  unfold lay1 at h1
  unfold isAg
  split at h1
  ·rename_i ht
   obtain ⟨b,rfl⟩:=okWide_bool ht hval
   simp [ht,Value.cells]
  ·rename_i k ht
   obtain ⟨b,rfl⟩:=okWide_int ht hval
   simp [ht,Value.cells]
  ·rename_i ht
   obtain ⟨b,rfl⟩:=okWide_string ht hval
   simp [ht,Value.cells]
  ·rename_i e ht
   obtain ⟨a,n,c,rfl⟩:=okWide_slice ht hval
   simp [ht,Value.cells]
  ·rename_i m e ht
   obtain ⟨cs,rfl,_⟩:=okWide_array ht hval
   simp [ht,Value.cells]
  ·rename_i fs ht
   obtain ⟨cs,rfl,_⟩:=okWide_struct ht hval
   simp [ht,Value.cells]
  ·cases h1
end
def ltOf:Leaf->LT
 | .d t _=>.d t
 | .own _ E e _=>.own E e
def datOf:Leaf->Dat
 | .d t x=>⟨t,x⟩
 | .own _ _ e l=>⟨.sl e,l⟩
theorem appF_c {α:Type} {t:Ty} {ts:List Ty} {f:insT (t::ts) (Option α)} {x:t.D} {xs:List Dat} {r:Option α} (h:appF ts (f x) xs=r):appF (t::ts) f (⟨t,x⟩::xs)=r:=by
 show (match castD t x with | some a=>appF ts (f a) xs | none=>none)=_
 rw [castD_self];exact h
theorem appF_n {α:Type} {f r:Option α} (h:f=r):appF [] f []=r:=h
structure Arg where
 ag:Bool
 ls:List Leaf
 v:Value
def Arg.par (a:Arg):Par:=.v a.ag (a.ls.map ltOf)
def isDs (ls:List Leaf):Bool:=ls.all isD
theorem mk_ds {lab:Nat->Tok}:∀ {ls:List Leaf} (j:Nat),isDs ls=true->mkLs lab (ls.map ltOf) j (ls.map datOf)=some ls
 | [],_,_=>rfl
 | .d t x::ls,j,h=>by
  have h':isDs ls=true:=by simp [isDs] at h ⊢;exact h.2
  show (match castD t x,mkLs lab (ls.map ltOf) (j+1) (ls.map datOf) with | some a,some r=>some (Leaf.d t a::r) | _,_=>none)=_
  rw [castD_self,mk_ds (j+1) h']
 | .own _ _ _ _::ls,j,h=>by simp [isDs,isD] at h
theorem isM_args:∀ (al:List Arg) (i:Nat),isM (al.map Arg.par) i=false
 | [],0=>rfl
 | [],_+1=>rfl
 | a::al,0=>rfl
 | a::al,i+1=>isM_args al i
theorem parK_args:∀ (al:List Arg) (ls:List Leaf) (i:Nat),parK (al.map Arg.par) ls i=none
 | [],_,0=>rfl
 | [],_,_+1=>rfl
 | a::al,_,0=>rfl
 | a::al,ls,i+1=>parK_args al _ i
theorem parP_args:∀ (al:List Arg) (rest:List Leaf) (i:Nat),(∀ a,al[i]? = some a->parP (al.map Arg.par) (al.flatMap Arg.ls++rest) i=.w a.ag a.ls) /\ (al[i]? = none->parP (al.map Arg.par) (al.flatMap Arg.ls++rest) i=.raw undef)
 | [],_,0=>⟨fun a h=>by simp at h,fun _=>rfl⟩
 | [],_,_+1=>⟨fun a h=>by simp at h,fun _=>rfl⟩
 | a::al,rest,0=>by
  refine ⟨fun b h=>?_,fun h=>by simp at h⟩
  simp at h
  subst h
  show PV.w a.ag ((a.ls++al.flatMap Arg.ls++rest).take (a.ls.map ltOf).length)=_
  rw [List.length_map,List.append_assoc,List.take_left]
 | a::al,rest,i+1=>by
  have:=parP_args al rest i
  have e:parP ((a::al).map Arg.par) ((a::al).flatMap (·.ls)++rest) (i+1)=parP (al.map Arg.par) (al.flatMap Arg.ls++rest) i:=by
   show parP (al.map Arg.par) ((a.ls++al.flatMap Arg.ls++rest).drop (a.ls.map ltOf).length) i=_
   rw [List.length_map,List.append_assoc,List.drop_left]
  rw [e]
  simpa using this
section
variable {P : Program} {W : World}
def C00 (W:World):Com:=fun b _=>b < W.heap.size
theorem c00_cell (W:World) (a:Addr) (u:Value) (h:W.cell? a=some u):C00 W a.block a.off:=cell_lt h
def F00 (W:World) (n:Nat):Fr:=⟨n,W,C00 W,fun _ _=>False⟩
def G00 (W:World):Gh:=⟨C00 W,fun _=>none,fun _=>(0,0),fun _ _=>[]⟩
def Arg.ok (W:World) (a:Arg):Prop:=isDs a.ls=true /\ ∀ (F:Fr) (g:Gh) (O:Tok->Bool),g.C=C00 W->RelV F g W O a.v a.ag a.ls
theorem Arg.mk_ok {τ:Ty} {y:τ.D} {cs:List Value} {ag:Bool} {v:Value} (h:RepD W (C00 W) τ y cs) (hv:match ag with | true=>v=.agg ⟨cs⟩ | false=>cs=[v]):(Arg.mk ag (flat τ y) v).ok W:=by
 refine ⟨List.all_eq_true.2 (flat_isD τ y),fun F g O hg=>⟨cs,repLs_flat (by rw [hg];exact h),?_⟩⟩
 cases ag <;> exact hv
theorem args_rel {al:List Arg} {rs:List (Bool×List LT)} (h:∀ a∈al,a.ok W) (n:Nat):∃ st,entrySt ⟨al.map Arg.par,rs⟩ (al.flatMap fun a=>a.ls.map datOf)=some st /\ MRel (F00 W n) (G00 W) st (fun i=>(al.map Arg.v).getD i undef) W:=by
  have hds:isDs (al.flatMap Arg.ls)=true:=by
    refine List.all_eq_true.2 fun l hl=>?_
    obtain ⟨a,ha,hl⟩:=List.mem_flatMap.1 hl
    exact List.all_eq_true.1 (h a ha).1 l hl
  have e1:parsT (al.map Arg.par)=(al.flatMap Arg.ls).map ltOf:=by
    unfold parsT
    rw [List.flatMap_map,List.map_flatMap]
    rfl
  have e2:(al.flatMap fun a=>a.ls.map datOf)=(al.flatMap Arg.ls).map datOf:=by rw [List.map_flatMap]
  refine ⟨_,by unfold entrySt;simp only [e1,e2,mk_ds 0 hds];rfl,?_⟩
  refine ⟨⟨Nat.le_refl _,rfl,rfl,rfl,fun _ _ _=>rfl,fun b cs T fr _ hb=>⟨cs,fr,hb,rfl,fun _ _=>rfl⟩,fun _ _ _ _=>Iff.rfl,fun _ _ h=>h,fun _ _ h=>h⟩,fun i=>?_,fun k σ ls hL=>?_,fun k σ ls hL=>?_,fun t b hb=>(by cases hb),fun i t want ag l hs=>?_,fun d hd=>(by cases hd),fun i k hk=>?_,rfl,fun k k' b _ _ hb=>(by cases hb),fun k b j x _ hb=>(by cases hb),fun k b _ hb=>(by cases hb),fun k b _ hb=>(by cases hb),fun j j' x x' hj=>?_⟩
  · show RelP _ _ W _ _ _ (match isM (al.map Arg.par) i with | true=>PV.loc i 0 | false=>parP (al.map Arg.par) (al.flatMap Arg.ls) i)
    rw [isM_args]
    have:=parP_args al [] i
    rw [List.append_nil] at this
    cases ha:al[i]? with
    | none=>
      show RelP _ _ W _ _ _ (parP (al.map Arg.par) (al.flatMap Arg.ls) i)
      rw [this.2 ha]
      show (al.map Arg.v).getD i undef=undef
      simp [List.getD_eq_getElem?_getD,ha]
    | some a=>
      show RelP _ _ W _ _ _ (parP (al.map Arg.par) (al.flatMap Arg.ls) i)
      rw [this.1 a ha]
      have e:(al.map Arg.v).getD i undef=a.v:=by simp [List.getD_eq_getElem?_getD,ha]
      show RelV _ _ W _ ((al.map Arg.v).getD i undef) a.ag a.ls
      rw [e]
      exact (h a (List.mem_of_getElem? ha)).2 _ _ _ rfl
  all_goals first
    | (have hL' : (match parK (al.map Arg.par) (al.flatMap Arg.ls) k with | some l => some ((0 : Nat), l) | none => none) = some (σ, ls) := hL
       rw [parK_args] at hL'
       cases hL')
    | (have hL' : (match parK (al.map Arg.par) (al.flatMap Arg.ls) j with | some l => some ((0 : Nat), l) | none => none) = some x := hj
       rw [parK_args] at hL'
       cases hL')
    | skip
  · have hs':(match isM (al.map Arg.par) i with | true=>PV.loc i 0 | false=>parP (al.map Arg.par) (al.flatMap Arg.ls) i)=.spec t want ag l:=hs
    rw [isM_args] at hs'
    have:=parP_args al [] i
    rw [List.append_nil] at this
    have hs2:parP (al.map Arg.par) (al.flatMap Arg.ls) i=.spec t want ag l:=hs'
    cases ha:al[i]? with
    | none=>rw [this.2 ha] at hs2;cases hs2
    | some a=>rw [this.1 a ha] at hs2;cases hs2
  · have hs':k∈keyP (match isM (al.map Arg.par) i with | true=>PV.loc i 0 | false=>parP (al.map Arg.par) (al.flatMap Arg.ls) i):=hk
    rw [isM_args] at hs'
    have:=parP_args al [] i
    rw [List.append_nil] at this
    have hs2:k∈keyP (parP (al.map Arg.par) (al.flatMap Arg.ls) i):=hs'
    cases ha:al[i]? with
    | none=>rw [this.2 ha] at hs2;cases hs2
    | some a=>rw [this.1 a ha] at hs2;cases hs2
theorem tab_start {T:Tab} {n:Nat} (hT:∀ p∈T,∃ ty fr,W.heap[p.1]? = some (.cells p.2 ty fr)):TabF T (F00 W n):=fun p hp=>by
 obtain ⟨ty,fr,h⟩:=hT p hp
 refine ⟨⟨ty,fr,h⟩,fun i hi=>⟨?_,fun hx=>hx⟩⟩
 have:W.cell? ⟨p.1,i,none⟩=some p.2[i]:=by rw [cell_at h,Array.getElem?_eq_getElem hi]
 exact c00_cell W ⟨p.1,i,none⟩ _ this
theorem law_calls {T:Tab} (hT:∀ p∈T,∃ ty fr,W.heap[p.1]? = some (.cells p.2 ty fr)) {f:FuncId} {fd:Func} {s:Sig} {fn:s.Fn} {al:List Arg} {y:s.out.D} (hS:SoundFn P T f s fn) (hps:s.ps=al.map Arg.par) (hrs:s.rs.length=1) (hf:P.funcs[f]? = some fd) (hok:∀ a∈al,a.ok W)
  (happ:appF ((parsT s.ps).map LT.ty) fn.f (al.flatMap fun a=>a.ls.map datOf)=some y) (hex:∀ st',exitSt s y=some st'->st'.φ 0=.w false [.d .bool true]):Calls P f ⟨al.map Arg.v⟩ W fun e W'=>e=.returned (.bool true) /\ Below W.heap.size W W':=by
 obtain ⟨ps,rs⟩:=s
 have hps:ps=al.map Arg.par:=hps
 subst hps
 obtain ⟨st,h1,h2⟩:=args_rel (rs:=rs) hok fd.ntmps
 refine (hS (F00 W fd.ntmps) (G00 W) st _ y _ W ⟨al.map Arg.v⟩ (tab_start hT) h1 happ h2 rfl (fun fd' h=>by rw [hf] at h;cases h;rfl) (by simp) (fun i=>by simp [Array.getD_eq_getD_getElem?,List.getD_eq_getElem?_getD])).mono fun e W' ⟨us,g',st',q1,q2,q3,q4,_⟩=>?_
 have hlen:us.length=1:=q2.trans hrs
 obtain ⟨u,rfl⟩:∃ u,us=[u]:=by
  match us,hlen with
  | [u],_=>exact ⟨u,rfl⟩
 have h0:=q4.slots 0
 rw [hex st' q3] at h0
 obtain ⟨cs,g1,g2⟩:=h0
 obtain ⟨c1,c2,rfl,g3,g4⟩:=g1
 have g3:c1=[.bool true]:=g3
 have g4:c2=[]:=g4
 subst g3;subst g4
 have g2:[Value.bool true]++[]=[u]:=g2
 injection g2 with g2
 have hu:u=.bool true:=g2.symm
 subst hu
 refine ⟨q1,q4.fr.os,q4.fr.tape,q4.fr.output,q4.fr.size,fun k hk=>q4.fr.old k hk fun _ h=>h⟩
end
section
variable {H : Type} {enc : TypeId × Value -> H} {P : Program}
theorem post_of_below {f:Func} {s:ChangeSpec} {apart fresh handsOn again:Bool} {W W':World} {args:Array Value} {v:Value} {ds gs:List (DataW H)} {before pa pv:List MemPlace}
  (hW:DataW.Whole enc P f.params.toList s.vars apart W args.toList ds gs before)
  (hres:∀ (b:Nat) (sp:Nat->Bool) (hd:Bool),DataW.TrodAll enc P W' b sp hd f.resultTypes.toList (v.resultList f.resultTypes.size) (s.fn H (ds++gs)).results [])
  (hargs:∀ sp:Nat->Bool,(∀ p∈before,sp p.block=true)->DataW.TrodAll enc P W' 0 sp true f.params.toList args.toList (s.fn H (ds++gs)).args pa)
  (hvars:∀ sp:Nat->Bool,(∀ p∈before,sp p.block=true)->DataW.TrodVars enc P W' sp s.vars (s.fn H (ds++gs)).vars pv)
  (hps:before=pa++pv) (hb:Below W.heap.size W W')
  (hok:∀ (j:Nat) (t:TypeId) (r:Value),f.resultTypes[j]? = some t->(v.resultList f.resultTypes.size)[j]? = some r->Value.okWide P W' .any 0 t r) :
  s.post enc P f apart fresh handsOn again W args v W':=by
 have hlt:∀ p∈before,p.block < W.heap.size:=fun p hp=>hW.lt p hp
 have hold:∀ p∈before,(fun b=>decide (b < W.heap.size)) p.block=true:=fun p hp=>by simpa using hlt p hp
 refine ⟨ds,gs,before,[],pa,pv,hW,hres _ _ _,hargs _ hold,hvars _ hold,World.keptBut_mono (fun p hp=>⟨hp,?_⟩) (hb.frame (· ∈ before)),fun _=>?_⟩
 ·rw [hps,List.mem_append] at hp
  exact Or.inr hp
 ·obtain ⟨_,_,_,_,_,hz,hn⟩:=hW
  refine ⟨hok,_,_,([]++pa)++pv,⟨[]++pa,pv,trodAll_append (hargs _ (fun _ _=>rfl)) (hres _ _ _),hvars _ (fun _ _=>rfl),rfl,?_,?_⟩,?_⟩
  ·intro b off hp
   have hin:MemPlace.cell b off∈before:=by rw [hps];simpa using hp
   rw [hb.frozen (hlt _ hin)]
   exact hz b off hin
  ·intro ha
   have:=hn ha
   rw [hps] at this
   simpa using this
  ·intro p hp _
   rw [hps]
   simpa using hp
theorem trodAll_stays (hl:laidOutB P=true) {W W':World} (hb:Below W.heap.size W W') {sp:Nat->Bool}:∀ {ts:List TypeId} {vs:List Value} {ds:List (DataW H)} {ps:List MemPlace},
  (ts.all fun t=>P.readableRec t&&decide (t < P.types.size))=true->DataW.TrodAll enc P W 0 (fun _=>true) true ts vs ds ps->(∀ p∈ps,p.block < W.heap.size)->(∀ p∈ps,sp p.block=true) ->
  DataW.TrodAll enc P W' 0 sp true ts vs ds ps
 | [],vs,ds,ps,_,h,_,_=>by
  obtain ⟨rfl,rfl,rfl⟩:=trodAll_nil h
  exact h
 | t::ts,vs,ds,ps,ht,h,hlt,hsp=>by
  obtain ⟨v,vs',d,ds',p,q,rfl,rfl,rfl,h1,h2⟩:=trodAll_cons h
  simp only [List.all_cons,Bool.and_eq_true,decide_eq_true_eq] at ht
  exact ⟨p,q,WideElems.Trod_stays hl ht.1.1 ht.1.2 h1 (fun x hx=>hb.same (hlt x (by simp [hx]))) (fun x hx=>hsp x (by simp [hx])),
   trodAll_stays hl hb ht.2 h2 (fun x hx=>hlt x (by simp [hx])) (fun x hx=>hsp x (by simp [hx])),rfl⟩
theorem law_post {tb:TypeId} {f:Func} {s:ChangeSpec} {fresh handsOn again:Bool} {W W':World} {args:Array Value} {ds:List (DataW H)} {before:List MemPlace}
  (hv:s.vars=[]) (hrt:f.resultTypes = #[tb]) (hb:P.underlying tb=some .bool) (hl:laidOutB P=true) (hp:(f.params.toList.all fun t=>P.readableRec t&&decide (t < P.types.size))=true)
  (hW:DataW.Whole enc P f.params.toList s.vars false W args.toList ds [] before) (hfn:(s.fn H (ds++[])).results=[.lit (.bool true)]) (hfa:(s.fn H (ds++[])).args=ds) (hfv:(s.fn H (ds++[])).vars=[])
  (hbel:Below W.heap.size W W'):s.post enc P f false fresh handsOn again W args (.bool true) W':=by
 have hlt:∀ p∈before,p.block < W.heap.size:=fun p hp=>hW.lt p hp
 have hW2:=hW
 obtain ⟨p,q,hA,hV,hpq,_,_⟩:=hW2
 rw [hv] at hV
 obtain ⟨_,rfl⟩:=trodVars_none hV
 have hpq':before=p:=by simpa using hpq
 subst hpq'
 refine post_of_below (pa:=before) (pv:=[]) hW ?_ (fun sp hsp=>?_) (fun sp _=>?_) (by simp) hbel ?_
 ·intro b sp hd
  rw [hfn,hrt]
  exact trodAll_cons_mk (shut_bool hb _) trodAll_mk0
 ·rw [hfa];exact trodAll_stays hl hbel hp hA hlt hsp
 ·rw [hfv,hv];rfl
 ·exact ok_one hrt rfl (okWide_bool_mk hb _)
end
end Pv
end Go.Proofs.YtgfmfgombmpodaaGreatDoor
namespace Go.Proofs.YtgfmfgombmpodaaGreatDoor
open Go.RowKit
namespace Pv
set_option linter.unusedVariables false
section
variable {F : Fr} {g : Gh} {st st' : PSt} {tmf : Nat -> Value} {w w' : World}
theorem appF_inv_c {α:Type} {t:Ty} {ts:List Ty} {f:insT (t::ts) (Option α)} {xs:List Dat} {y:α} (h:appF (t::ts) f xs=some y):∃ x xs',xs=⟨t,x⟩::xs' /\ appF ts (f x) xs'=some y:=by
 cases xs with
 | nil=>cases h
 | cons x xs'=>
  have h':(match castD t x.2 with | some a=>appF ts (f a) xs' | none=>none)=some y:=h
  split at h'
  ·rename_i a ha
   exact ⟨a,xs',by rw [<-castD_sig ha],h'⟩
  ·cases h'
theorem appF_inv_n {α:Type} {f:Option α} {xs:List Dat} {y:α} (h:appF [] f xs=some y):xs=[] /\ f=some y:=by
 cases xs with
 | nil=>exact ⟨rfl,h⟩
 | cons x xs'=>cases h
theorem Frame.below {C:Com} (h:Frame F C w) (hb:Below w.heap.size w w'):Frame F C w':=
 ⟨Nat.le_trans h.size hb.size,hb.os.trans h.os,hb.tape.trans h.tape,hb.output.trans h.output,fun b hlt hx=>(hb.block b (Nat.lt_of_lt_of_le hlt h.size)).trans (h.old b hlt hx),
  fun b cs T fr hlt hc=>by
   obtain ⟨cs',fr',h1,h2,h3⟩:=h.shape b cs T fr hlt hc
   exact ⟨cs',fr',(hb.block b (Nat.lt_of_lt_of_le hlt h.size)).trans h1,h2,h3⟩,h.com,h.mono,fun b o hc=>Nat.lt_of_lt_of_le (h.lim b o hc) hb.size⟩
theorem mrel_out (h:MRel F g st tmf w) (hb:Below w.heap.size w w') {t:Ty} {x:t.D} {u:Value} (hu:RepD w' g.C t x [u]) (h0:st'.φ 0=.w false [.d t x]) (h1:∀ i,st'.φ (i+1)=.dead) (hL:∀ k,st'.L k=none) (hO:∀ k,st'.O k=true->k=.zero) (hkn:st'.kn=[]) (hfr:st'.fr=[]) :
  MRel F ⟨g.C,fun _=>none,g.ρ,fun _ _=>[]⟩ st' (fun i=>[u].getD i undef) w':=by
 refine ⟨h.fr.below hb,fun i=>?_,fun k σ ls hl=>?_,fun k σ ls hl=>?_,fun t b hk=>?_,fun i t want ag ls hs=>?_,fun d hd=>?_,fun i k hk=>?_,rfl,fun k k' b _ _ hb=>(by cases hb),fun k b j x _ hb=>(by cases hb),fun k b _ hb=>(by cases hb),fun k b _ hb=>(by cases hb),fun j j' x x' hj=>?_⟩
 ·cases i with
  | zero=>rw [h0];exact ⟨[u],⟨[u],[],rfl,hu,rfl⟩,rfl⟩
  | succ i=>rw [h1];trivial
 ·rw [hL] at hl;cases hl
 ·rw [hL] at hl;cases hl
 ·rw [hkn] at hk;cases hk
 ·cases i with
  | zero=>rw [h0] at hs;cases hs
  | succ i=>rw [h1] at hs;cases hs
 ·rw [hfr] at hd;cases hd
 ·cases i with
  | zero=>rw [h0] at hk;cases hk
  | succ i=>rw [h1] at hk;cases hk
 ·rw [hL] at hj;cases hj
theorem rel_bytes {O:Tok->Bool} {u:Value} {l:List Int} (h:RelP F g w O tmf u (.w false [.d (.sl (.int .u8)) l])):∃ a n c,u=.slice a n c /\ l.length=n /\ n<=c /\ c<=maxLen /\ (∀ x∈l,0<=x /\ x < 256) /\ ∀ (i:Nat) (x:Int),l[i]? = some x -> ∃ ad,a=some ad /\ w.cell? (ad.add i)=some (.int .u8 x):=by
 obtain ⟨cs,⟨c1,c2,rfl,h1,h2⟩,h3⟩:=h
 have h2:c2=[]:=h2
 subst h2
 obtain ⟨a,n,c,e,h4,h5,h6,h7⟩:=h1
 have h3:c1++[]=[u]:=h3
 rw [List.append_nil,e] at h3
 injection h3 with h3
 refine ⟨a,n,c,h3.symm,h4,h5,h6,fun x hx=>?_,fun i x hi=>?_⟩
 ·obtain ⟨i,hi,rfl⟩:=List.mem_iff_getElem.1 hx
  obtain ⟨ad,us,e1,e2,e3,e4⟩:=h7 i l[i] (List.getElem?_eq_getElem hi)
  have hw:(Lit.int .u8 l[i]).wf=true:=e4.2
  simp [Lit.wf,IntKind.min,IntKind.max,IntKind.signed,IntKind.bits] at hw
  omega
 ·obtain ⟨ad,us,e1,e2,e3,e4⟩:=h7 i x hi
  have e5:us=[.int .u8 x]:=e4.1
  have:=(e3 0 (.int .u8 x) (by rw [e5];rfl)).1
  rw [show i*(Ty.int .u8).size+0=i by show i*1+0=i;omega] at this
  exact ⟨ad,e1,this⟩
end
def Par.isv:Par->Bool
 | .v _ _=>true
 | .m _=>false
def exitO (s:Sig):Tok->Bool:=fun t=>hasT (.zero::labs (Tok.hd 0) s.outs 0) t
theorem isM_v:∀ {ps:List Par} (i:Nat),ps.all Par.isv=true->isM ps i=false
 | [],_,_=>rfl
 | .v _ _::_,0,_=>rfl
 | .v _ _::ps,i+1,h=>isM_v (ps:=ps) i (by simpa [Par.isv] using h)
 | .m _::_,_,h=>by simp [Par.isv] at h
theorem inoutAt_v:∀ {ps:List Par} {ls:List Leaf} (i:Nat),ps.all Par.isv=true->inoutAt ps ls i=none
 | [],_,_,_=>rfl
 | .v _ _::_,_,0,_=>rfl
 | .v _ _::ps,ls,i+1,h=>inoutAt_v (ps:=ps) i (by simpa [Par.isv] using h)
 | .m _::_,_,_,h=>by simp [Par.isv] at h
theorem resAt_w:∀ {rs:List (Bool×List LT)} {ls:List Leaf} (i:Nat),(∃ ag os,resAt rs ls i=.w ag os) \/ resAt rs ls i=.dead
 | [],_,_=>.inr rfl
 | (_,_)::_,_,0=>.inl ⟨_,_,rfl⟩
 | (_,_)::rs,ls,i+1=>resAt_w (rs:=rs) i
theorem sound_of {P:Program} {T:Tab} {f:FuncId} {s:Sig} {fn:s.Fn} (hp:s.ps.all Par.isv=true)
  (H:∀ (F:Fr) (g:Gh) (O:Tok->Bool) (xs:List Dat) (ls:List Leaf) (y:s.out.D) (tmf:Nat->Value) (w:World) (args:Array Value),(∀ p∈T,∃ ty fr,w.heap[p.1]? = some (.cells p.2 ty fr))->F.w0=w->(∀ b o,g.C b o->b < w.heap.size)->mkLs (Tok.hd 0) (parsT s.ps) 0 xs=some ls->appF ((parsT s.ps).map LT.ty) fn.f xs=some y->args.size=s.ps.length ->
   (∀ i,RelP F g w O tmf (args.getD i undef) (parP s.ps ls i))->Calls P f args w fun e w'=>∃ us os C' blk',e=.returned (retV us) /\ us.length=s.rs.length /\ mkLs (Tok.hd 0) s.outs 0 (unpackD (s.outs.map LT.ty) y)=some os /\ Below w.heap.size w w' /\
    (∀ b o,b < w.heap.size->(C' b o↔g.C b o)) /\ (∀ b o,C' b o->b < w'.heap.size) /\ blk' .zero=none /\ (∀ k b,blk' k=some b->w.heap.size<=b /\ b < w'.heap.size) /\ (∀ k k' b,blk' k=some b->blk' k'=some b->k=k') /\
    ∀ i,i < s.rs.length->RelP F ⟨C',blk',g.ρ,fun _ _=>[]⟩ w' (exitO s) tmf (us.getD i undef) (resAt s.rs os i)):SoundFn P T f s fn:=by
 intro F g st xs y tmf w args hT hent happ hrel hw hn hsz htm
 unfold entrySt at hent
 split at hent
 case h_1=>cases hent
 rename_i ls hls
 injection hent with hent
 have hφ:∀ i,st.φ i=parP s.ps ls i:=fun i=>by
  rw [<-hent]
  show (match isM s.ps i with | true=>PV.loc i 0 | false=>parP s.ps ls i)=_
  rw [isM_v i hp]
 refine (H F g st.O xs ls y tmf w args (fun p hp=>(tab_now hT hrel.fr p hp).1) hw hrel.fr.lim hls happ hsz fun i=>?_).mono ?_
 ·have:=hrel.slots i
  rw [hφ,htm] at this
  exact this
 ·rintro e w' ⟨us,os,C',blk',he,hus,hos,hbel,hC,hlim,hb0,hbk,hbi,hres⟩
  refine ⟨us,⟨C',blk',g.ρ,fun _ _=>[]⟩,⟨resAt s.rs os,fun _=>none,exitO s,[],[],[]⟩,he,hus,?_,?_,fun k hk=>absurd ((isM_v k hp).symm.trans hk) (by decide)⟩
  ·unfold exitSt
   rw [hos]
   show some (PSt.mk (resAt s.rs os) (fun k=>match inoutAt s.ps (os.drop s.nres) k with | some l=>some ((0:Nat),l) | none=>none) (exitO s) [] [] [])=some (PSt.mk (resAt s.rs os) (fun _=>none) (exitO s) [] [] [])
   congr 2
   funext k
   rw [inoutAt_v k hp]
  ·have hfr:=hrel.fr
   have h00:F.w0.heap.size<=w.heap.size:=hfr.size
   refine ⟨?_,fun i=>?_,fun k σ ls hl=>(by cases hl),fun k σ ls hl=>(by cases hl),fun t b hk=>(by cases hk),fun i t want ag ls hs=>?_,fun d hd=>(by cases hd),fun i k hk=>?_,hb0,fun k k' b _ _ h1 h2=>hbi k k' b h1 h2,fun k b j x _ _ hj=>(nomatch hj),fun k b _ h=>(hbk k b h).2,fun k b _ h=>.inl (Nat.le_trans h00 (hbk k b h).1),fun j j' x x' hj=>(nomatch hj)⟩
   ·have hf2:=hfr.below hbel
    refine ⟨hf2.size,hf2.os,hf2.tape,hf2.output,hf2.old,hf2.shape,fun b o hb hx=>?_,fun b o h=>?_,hlim⟩
    ·exact (hC b o (Nat.lt_of_lt_of_le hb h00)).trans (hfr.com b o hb hx)
    ·have hgc:=hfr.mono b o h
     exact (hC b o (hfr.lim b o hgc)).2 hgc
   ·show RelP F ⟨C',blk',g.ρ,fun _ _=>[]⟩ w' (exitO s) (fun i=>us.getD i undef) (us.getD i undef) (resAt s.rs os i)
    rcases Nat.lt_or_ge i s.rs.length with hi | hi
    ·have h:=hres i hi
     rcases resAt_w (rs:=s.rs) (ls:=os) i with ⟨ag,os',e⟩ | e
     ·rw [e] at h ⊢;exact h
     ·rw [e];trivial
    ·rw [resAt_out hi];trivial
   ·have hs:resAt s.rs os i=.spec t want ag ls:=hs
    rcases resAt_w (rs:=s.rs) (ls:=os) i with ⟨ag,os',e⟩ | e
    ·rw [e] at hs;cases hs
    ·rw [e] at hs;cases hs
   ·have hk:k∈keyP (resAt s.rs os i):=hk
    rcases resAt_w (rs:=s.rs) (ls:=os) i with ⟨ag,os',e⟩ | e
    ·rw [e] at hk;cases hk
    ·rw [e] at hk;cases hk
theorem repLs_to {F F':Fr} {g g':Gh} {w:World} {O O':Tok->Bool} (hC:g'.C=g.C):∀ {ls:List Leaf} {cs:List Value},ls.all isD=true->RepLs F g w O ls cs->RepLs F' g' w O' ls cs
 | [],_,_,h=>h
 | .d t x::ls,cs,hd,h=>by
  obtain ⟨c1,c2,e,h1,h2⟩:=h
  refine ⟨c1,c2,e,?_,repLs_to hC (by simpa [isD] using hd) h2⟩
  show RepD w g'.C t x c1
  rw [hC]
  exact h1
 | .own _ _ _ _::_,_,hd,_=>by simp [isD] at hd
theorem mkLs_d {lab:Nat->Tok}:∀ {ts:List LT} {j:Nat} {xs:List Dat} {ls:List Leaf},ts.all (fun t=>match t with | .d _=>true | _=>false)=true->mkLs lab ts j xs=some ls->ls.all isD=true
 | [],_,[],ls,_,h=>by injection h with h;subst h;rfl
 | [],_,_::_,_,_,h=>by cases h
 | .d t::ts,j,[],ls,_,h=>by cases h
 | .d t::ts,j,x::xs,ls,hd,h=>by
  unfold mkLs at h
  split at h
  case h_2=>cases h
  rename_i a r h1 h2
  injection h with h
  subst h
  have:=mkLs_d (ts:=ts) (by simpa using hd) h2
  simpa [isD] using this
 | .own _ _::_,_,_,_,hd,_=>by simp at hd
theorem sound_d {P:Program} {T:Tab} {f:FuncId} {s:Sig} {fn:s.Fn} (hp:s.ps.all Par.isv=true)
  (H:∀ (F:Fr) (g:Gh) (O:Tok->Bool) (xs:List Dat) (ls:List Leaf) (y:s.out.D) (tmf:Nat->Value) (w:World) (args:Array Value),(∀ p∈T,∃ ty fr,w.heap[p.1]? = some (.cells p.2 ty fr))->mkLs (Tok.hd 0) (parsT s.ps) 0 xs=some ls->appF ((parsT s.ps).map LT.ty) fn.f xs=some y->args.size=s.ps.length ->
   (∀ i,RelP F g w O tmf (args.getD i undef) (parP s.ps ls i))->Calls P f args w fun e w'=>∃ us os,e=.returned (retV us) /\ us.length=s.rs.length /\ mkLs (Tok.hd 0) s.outs 0 (unpackD (s.outs.map LT.ty) y)=some os /\ Below w.heap.size w w' /\
    ∀ i,i < s.rs.length->RelP F ⟨g.C,fun _=>none,g.ρ,fun _ _=>[]⟩ w' (exitO s) tmf (us.getD i undef) (resAt s.rs os i)):SoundFn P T f s fn:=by
 refine sound_of hp fun F g O xs ls y tmf w args hT hw hlim hls happ hsz hr=>(H F g O xs ls y tmf w args hT hls happ hsz hr).mono ?_
 rintro e w' ⟨us,os,he,hus,hos,hbel,hres⟩
 exact ⟨us,os,g.C,fun _=>none,he,hus,hos,hbel,fun _ _ _=>Iff.rfl,fun b o h=>Nat.lt_of_lt_of_le (hlim b o h) hbel.size,rfl,fun k b h=>(by cases h),fun k k' b h=>(by cases h),hres⟩
theorem own_out {F:Fr} {g:Gh} {w w':World} {s:Sig} {tmf:Nat->Value} {E:TypeId} {e:Ty} {l:List e.D} {b cap:Nat} {cur:Array Value} {y:s.out.D} (hw:F.w0=w) (hlim:∀ b o,g.C b o->b < w.heap.size) (hbel:Below w.heap.size w w') (hb:w.heap.size<=b)
  (hcell:w'.heap[b]? = some (.cells cur E (0,0))) (hl:l.length<=cap) (hc:cap<=maxLen) (hsz:cur.size=cap*e.size) (hel:∀ (i:Nat) (x:e.D),l[i]? = some x->RepD w' (fun b' o=>g.C b' o \/ (b'=b /\ o < l.length*e.size)) e x ((cur.toList.drop (i*e.size)).take e.size))
  (hrs:s.rs=[(false,[.own E e])]) (hmk:mkLs (Tok.hd 0) s.outs 0 (unpackD (s.outs.map LT.ty) y)=some [.own (.hd 0 0) E e l]) :
  ∃ us os C' blk',Ending.returned (.slice (some ⟨b,0,none⟩) l.length cap)=.returned (retV us) /\ us.length=s.rs.length /\ mkLs (Tok.hd 0) s.outs 0 (unpackD (s.outs.map LT.ty) y)=some os /\ Below w.heap.size w w' /\
   (∀ b o,b < w.heap.size->(C' b o↔g.C b o)) /\ (∀ b o,C' b o->b < w'.heap.size) /\ blk' .zero=none /\ (∀ k b,blk' k=some b->w.heap.size<=b /\ b < w'.heap.size) /\ (∀ k k' b,blk' k=some b->blk' k'=some b->k=k') /\
   ∀ i,i < s.rs.length->RelP F ⟨C',blk',g.ρ,fun _ _=>[]⟩ w' (exitO s) tmf (us.getD i undef) (resAt s.rs os i):=by
 have hblt:b < w'.heap.size:=(Array.getElem?_eq_some_iff.1 hcell).1
 have hk0:∀ k b',(match tokEq k (.hd 0 0) with | true=>some b | false=>none)=some b'->k=.hd 0 0 /\ b'=b:=fun k b' hk=>by
  cases hq:tokEq k (.hd 0 0) with
  | false=>rw [hq] at hk;cases hk
  | true=>
   rw [hq] at hk
   injection hk with hk
   refine ⟨?_,hk.symm⟩
   cases k with
   | hd d j=>
    have:(Nat.beq d 0&&Nat.beq j 0)=true:=hq
    simp only [Bool.and_eq_true] at this
    rw [Nat.eq_of_beq_eq_true this.1,Nat.eq_of_beq_eq_true this.2]
   | zero=>cases hq
   | op _ _=>cases hq
 refine ⟨[.slice (some ⟨b,0,none⟩) l.length cap],[.own (.hd 0 0) E e l],fun b' o=>g.C b' o \/ (b'=b /\ o < l.length*e.size),fun k=>match tokEq k (.hd 0 0) with | true=>some b | false=>none,rfl,by rw [hrs];rfl,hmk,hbel,fun b' o hb'=>⟨fun h=>h.elim id fun h=>absurd h.1 (by omega),.inl⟩,fun b' o h=>?_,rfl,fun k b' hk=>?_,fun k k' b' hk hk'=>?_,fun i hi=>?_⟩
 ·rcases h with h | h
  ·exact Nat.lt_of_lt_of_le (hlim b' o h) hbel.size
  ·rw [h.1];exact hblt
 ·obtain ⟨_,rfl⟩:=hk0 k b' hk
  exact ⟨hb,hblt⟩
 ·rw [(hk0 k b' hk).1,(hk0 k' b' hk').1]
 ·rw [hrs] at hi ⊢
  match i,hi with
  | 0,_=>
   have hrepd:RepD w' (fun b' o=>g.C b' o \/ (b'=b /\ o < l.length*e.size)) (.sl e) l [.slice (some ⟨b,0,none⟩) l.length cap]:=by
    refine ⟨_,_,_,rfl,rfl,hl,hc,fun i x hx=>?_⟩
    have hx:l[i]? = some x:=hx
    have hi:i < l.length:=(List.getElem?_eq_some_iff.1 hx).1
    have hr:=hel i x hx
    refine ⟨_,_,rfl,RepD.len hr,fun j u hj=>?_,hr⟩
    have hjl:j < e.size:=by
     have h1:=(List.getElem?_eq_some_iff.1 hj).1
     have h2:=RepD.len hr
     omega
    rw [List.getElem?_take,if_pos hjl,List.getElem?_drop] at hj
    rw [add_at]
    refine ⟨?_,.inr ⟨rfl,?_⟩⟩
    ·rw [cell_at hcell,<- Array.getElem?_toList,Nat.zero_add];exact hj
    ·show 0+(i*e.size+j) < _
     have h1:(i+1)*e.size<=l.length*e.size:=Nat.mul_le_mul_right _ hi
     rw [Nat.add_mul,Nat.one_mul] at h1
     omega
   refine ⟨[.slice (some ⟨b,0,none⟩) l.length cap],⟨_,[],rfl,⟨hrepd,fun _=>⟨_,rfl,.inr ⟨b,cap,cur,rfl,rfl,hcell,hl,hc,hsz,hel,?_,?_⟩⟩⟩,rfl⟩,rfl⟩
   ·intro o
    show (g.C b o \/ (b=b /\ o < l.length*e.size))↔o < l.length*e.size
    constructor
    ·rintro (h | h)
     ·have:=hlim _ _ h;omega
     ·exact h.2
    ·intro h;exact .inr ⟨rfl,h⟩
   ·intro o _
    exact .inl (by rw [hw];exact hb)
def tabOf (g:Nat) (k:IntKind) (zs:List Int):Nat×Array Value:=(g,(zs.map fun z=>Value.int k z).toArray)
theorem tabIs_now {P:Program} {w:World} {T:Tab} {name:String} {g:Nat} {k:IntKind} {zs:List Int} (hT:∀ p∈T,∃ ty fr,w.heap[p.1]? = some (.cells p.2 ty fr)) (hm:tabOf g k zs∈T) (hg:P.globalNamed name=some g):Lib.TabIs P w name k zs:=by
 obtain ⟨ty,fr,h⟩:=hT _ hm
 have h:w.heap[g]? = some (.cells (zs.map fun z=>Value.int k z).toArray ty fr):=h
 unfold Lib.TabIs World.var?
 rw [hg,Option.bind_some,h]
theorem tab_laid {P:Program} {W:World} {l:List (String×DataW Unit)} {name:String} {k:IntKind} {zs:List Int} {g:Nat} {t e:TypeId} {n:Nat}
  (h:laidMetH P l W) (hl:(l.filter fun x=>x.1==name)=[(name,Lib.tabData k zs)]) (hg:P.globalNamed name=some g) (hty:(P.globals[g]?).map (·.type)=some t) (ht:P.underlying t=some (.array n e)) (he:P.underlying e=some (.int k)) (hce:P.cellsOf e=1) (hct:P.cellsOf t=n) :
  ∃ ty fr,W.heap[(tabOf g k zs).1]? = some (.cells (tabOf g k zs).2 ty fr):=by
 have h1:=laidMetH.filter (fun x=>x.1==name) h
 rw [hl,MakeChecks.laidMetH_plain _ _ _ rfl] at h1
 have h2:=Lib.tabIs_of_head hg hty ht he hce hct h1
 unfold Lib.TabIs World.var? at h2
 rw [hg,Option.bind_some] at h2
 split at h2
 ·rename_i cs ty fr hc
  injection h2 with h2
  subst h2
  exact ⟨ty,fr,hc⟩
 ·cases h2
theorem below_grow (w:World) (k:Nat) (os:Array Obj):Below w.heap.size w (Go.Sort.grow (w.drewN k) os):=by
 refine ⟨rfl,rfl,rfl,?_,fun j hj=>?_⟩
 ·rw [Go.Sort.size_grow]
  exact Nat.le_add_right _ _
 ·exact Go.Sort.heap_grow_old (w.drewN k) os hj
section
variable {E : Env} {F : Fr} {g : Gh} {st : PSt} {w : World}
theorem fnH_calls {T:Tab} (hE:E.ok T) {r:Nat} {h:PSt->Option (Bool×PSt)} {A:List (Nat×Ann)} {f:FuncId} {fn:Func} {s:Sig} (hf:E.P.funcs[f]? = some fn) (hh:∀ c ac k,fn.body=some c->annot A c 0=some (ac,k) -> ∀ p∈(ac.withHand r h).hands,HandS E.P F p.1 p.2)
    {xs:List Dat} {y:s.out.D} {tmf:Nat->Value} {args:Array Value} (hT:TabF T F) (hent:entrySt s xs=some st) (happ:appF ((parsT s.ps).map LT.ty) (pvFnH r h E A fn s) xs=some y) (hrel:MRel F g st tmf w) (hw:F.w0=w) (hn:F.n=fn.ntmps)
    (hsz:args.size=s.ps.length) (htm:∀ i,tmf i=args.getD i undef):Calls E.P f args w fun e w'=>∃ us g' st',e=.returned (retV us) /\ us.length=s.rs.length /\ exitSt s y=some st' /\ MRel F g' st' (fun i=>us.getD i undef) w' /\ ∀ k,isM s.ps k=true->g'.ρ k=g.ρ k:=by
  have hv:=appF_curry _ _ _ _ happ
  unfold pvFnHL at hv
  rw [hent] at hv
  split at hv
  case h_2=>cases hv
  rename_i c st0 hb he
  injection he with he
  subst he
  split at hv
  case h_2=>cases hv
  rename_i ac0 k hac
  obtain ⟨ac,hace⟩:∃ ac,ac=AC.withHand r h ac0:=⟨_,rfl⟩
  rw [<-hace] at hv
  simp only at hv
  split at hv
  case h_2=>cases hv
  rename_i hgd
  simp only [Bool.and_eq_true] at hgd
  obtain ⟨⟨⟨⟨hg1,hg2⟩,hg3⟩,hg4⟩,hg5⟩:=hgd
  have hFn:=hn
  have hle:args.size<=fn.ntmps:=by rw [hsz];rw [Nat.ble_eq] at hg3;exact hg3
  have hdst:∀ d∈ac.dsts,d < F.n:=fun d hd=>by
    have:=List.all_eq_true.1 hg2 d hd
    rw [Nat.blt_eq] at this
    omega
  have htm':tm { tmps:=args++Array.replicate (fn.ntmps - args.size) undef,defers:=[] }=tmf:=by
    funext i
    rw [htm i]
    unfold tm
    simp only [Array.getD_eq_getD_getElem?,Array.getElem?_append]
    by_cases hlt:i < args.size
    · simp [hlt]
    · rw [if_neg hlt,Array.getElem?_eq_none (show args.size<=i by omega)]
      simp only [Array.getElem?_replicate,Option.getD_none]
      split <;> rfl
  have hAR:AR F g st { tmps:=args++Array.replicate (fn.ntmps - args.size) undef,defers:=[] } w:=⟨by simp;omega,rfl,by rw [htm'];exact hrel⟩
  have he:ac.erase=c:=by rw [hace,erase_hand];exact annot_erase c 0 ac0 k hac
  refine calls_of_wp hf hb ?_
  have hs:=pv_sound ⟨T,hE,hT⟩ ac (by rw [hace];exact hh c ac0 k hb hac) _ st y g _ w hg1 hdst hAR hv
  rw [he] at hs
  have fin : ∀ {x a' w' g' st'}, retF E.P fn.results.toList s st' = some y -> AR F g' st' a' w' -> LftX x (· ∈ ac.dsts) (· ∈ ac.ids) g { tmps := args ++ Array.replicate (fn.ntmps - args.size) undef, defers := [] } w g' a' w' ->
      a'.defers=[] /\ ∃ v,(results fn a'.tmps).run E.P w'=.ok v w' /\ ∃ us g' st',Ending.returned v=.returned (retV us) /\ us.length=s.rs.length /\ exitSt s y=some st' /\ MRel F g' st' (fun i=>us.getD i undef) w' /\ ∀ k,isM s.ps k=true->g'.ρ k=g.ρ k:=fun {x a' w' g' st'} hr hA hl=>by
    obtain ⟨us,g2,stX,r1,r2,r3,r4,r5,r6⟩:=exit_relF hA hr
    refine ⟨hA.defers,retV us,results_run r2 r3,us,g2,stX,rfl,r1,r4,r5,fun k hk=>?_⟩
    rw [r6]
    refine hl.ρ k fun hm=>?_
    have hlt:k < s.ps.length:=by
      obtain ⟨ts,hts⟩:=isM_iff.1 hk
      exact (List.getElem?_eq_some_iff.1 hts).1
    have:=List.all_eq_true.1 hg5 k (List.mem_range.2 hlt)
    rw [hk,hasN_iff.2 hm] at this
    cases this
  refine Code.wp_mono (fun e a' w' hp=>?_) hs
  obtain ⟨x,st',g',rfl,hQ,hr,hl⟩:=hp
  cases x with
  | exit i=>cases hQ
  | normal=>exact fin hQ hr hl
  | ret=>exact fin hQ hr hl
  | goto i=>cases hQ
end
def LT.isd:LT->Bool
 | .d _=>true
 | _=>false
theorem resAt_d:∀ {rs:List (Bool×List LT)} {ls:List Leaf} {i:Nat} {ag:Bool} {os:List Leaf},ls.all isD=true->resAt rs ls i=.w ag os->os.all isD=true
 | [],_,_,_,_,_,h=>by cases h
 | (_,ts)::_,ls,0,ag,os,hd,h=>by
  injection h with _ h
  subst h
  exact List.all_eq_true.2 fun x hx=>List.all_eq_true.1 hd x (List.mem_of_mem_take hx)
 | (_,ts)::rs,ls,i+1,ag,os,hd,h=>resAt_d (rs:=rs) (List.all_eq_true.2 fun x hx=>List.all_eq_true.1 hd x (List.mem_of_mem_drop hx)) h
theorem parP_d:∀ {ps:List Par} {ls:List Leaf} {i:Nat} {ag:Bool} {os:List Leaf},ls.all isD=true->parP ps ls i=.w ag os->os.all isD=true
 | [],_,_,_,_,_,h=>by cases h
 | .v _ ts::_,ls,0,ag,os,hd,h=>by
  injection h with _ h
  subst h
  exact List.all_eq_true.2 fun x hx=>List.all_eq_true.1 hd x (List.mem_of_mem_take hx)
 | .m _::_,ls,0,ag,os,hd,h=>by cases h
 | p::ps,ls,i+1,ag,os,hd,h=>parP_d (ps:=ps) (List.all_eq_true.2 fun x hx=>List.all_eq_true.1 hd x (List.mem_of_mem_drop hx)) h
theorem parP_c:∀ {ps:List Par} {ls:List Leaf} (i:Nat),ps.all Par.isv=true->(∃ ag os,parP ps ls i=.w ag os) \/ parP ps ls i=.raw undef
 | [],_,_,_=>.inr rfl
 | .v _ _::_,ls,0,_=>.inl ⟨_,_,rfl⟩
 | .v _ _::ps,ls,i+1,h=>parP_c (ps:=ps) i (by simpa [Par.isv] using h)
 | .m _::_,_,_,h=>by simp [Par.isv] at h
theorem parK_v:∀ {ps:List Par} {ls:List Leaf} (k:Nat),ps.all Par.isv=true->parK ps ls k=none
 | [],_,_,_=>rfl
 | .v _ _::_,ls,0,_=>rfl
 | .v _ _::ps,ls,i+1,h=>parK_v (ps:=ps) i (by simpa [Par.isv] using h)
 | .m _::_,_,_,h=>by simp [Par.isv] at h
theorem all_isd {ts:List LT} (h:ts.all LT.isd=true):ts.all (fun t=>match t with | .d _=>true | _=>false)=true:=
 List.all_eq_true.2 fun t ht=>by
  have:=List.all_eq_true.1 h t ht
  cases t <;> first | rfl | cases this
def F01 (n:Nat) (w:World) (C:Com):Fr:=⟨n,w,C,fun _ _=>False⟩
theorem fn_soundH {E:Env} {T:Tab} (hE:E.ok T) {r:Nat} {h:PSt->Option (Bool×PSt)} {A:List (Nat×Ann)} {f:FuncId} {fn:Func} {s:Sig} (hf:E.P.funcs[f]? = some fn) (hp:s.ps.all Par.isv=true) (hq:(parsT s.ps).all LT.isd=true) (ho:s.outs.all LT.isd=true)
  (hh:∀ w C,∀ c ac k,fn.body=some c->annot A c 0=some (ac,k) -> ∀ p∈(ac.withHand r h).hands,HandS E.P (F01 fn.ntmps w C) p.1 p.2):SoundFn E.P T f s ⟨pvFnH r h E A fn s⟩:=by
 intro F g st xs y tmf w args hT hent happ hrel hw hn hsz htm
 have hTw:TabF T (F01 fn.ntmps w g.C):=fun p hp=>by
  obtain ⟨h1,h2⟩:=hT p hp
  rw [hw] at h1
  exact ⟨h1,fun i hi=>⟨hrel.fr.mono _ _ (h2 i hi).1,fun h=>h⟩⟩
 have hent0:=hent
 unfold entrySt at hent
 split at hent
 case h_1=>cases hent
 rename_i ls hls
 injection hent with hent
 have hld:ls.all isD=true:=mkLs_d (all_isd hq) hls
 have hφ:∀ i,st.φ i=parP s.ps ls i:=fun i=>by
  rw [<-hent]
  show (match isM s.ps i with | true=>PV.loc i 0 | false=>parP s.ps ls i)=_
  rw [isM_v i hp]
 have hL:∀ k,st.L k=none:=fun k=>by
  rw [<-hent]
  show (match parK s.ps ls k with | some l=>some ((0:Nat),l) | none=>none)=none
  rw [parK_v k hp]
 have hrel1:MRel (F01 fn.ntmps w g.C) ⟨g.C,fun _=>none,fun _=>(0,0),fun _ _=>[]⟩ st tmf w:=by
  refine ⟨⟨Nat.le_refl _,rfl,rfl,rfl,fun _ _ _=>rfl,fun b cs T fr _ hb=>⟨cs,fr,hb,rfl,fun _ _=>rfl⟩,fun _ _ _ _=>Iff.rfl,fun _ _ h=>h,hrel.fr.lim⟩,fun i=>?_,fun k σ l hl=>?_,fun k σ l hl=>?_,fun t b hk=>?_,fun i t want ag l hs=>?_,fun d hd=>?_,fun i k hk=>?_,rfl,fun k k' b _ _ h=>(by cases h),fun k b j x _ h=>(by cases h),fun k b _ h=>(by cases h),fun k b _ h=>(by cases h),fun j j' x x' hj=>?_⟩
  ·have h1:=hrel.slots i
   rw [hφ] at h1 ⊢
   rcases parP_c (ls:=ls) i hp with ⟨ag,os,e⟩ | e
   ·rw [e] at h1 ⊢
    obtain ⟨cs,h2,h3⟩:=h1
    exact ⟨cs,repLs_to (F:=F) (g:=g) (g':=⟨g.C,fun _=>none,fun _=>(0,0),fun _ _=>[]⟩) (O:=st.O) rfl (parP_d hld e) h2,h3⟩
   ·rw [e] at h1 ⊢;exact h1
  ·rw [hL] at hl;cases hl
  ·rw [hL] at hl;cases hl
  ·rw [<-hent] at hk;cases hk
  ·rw [hφ] at hs
   rcases parP_c (ls:=ls) i hp with ⟨ag',os,e⟩ | e <;> rw [e] at hs <;> cases hs
  ·rw [<-hent] at hd;cases hd
  ·rw [hφ] at hk
   rcases parP_c (ls:=ls) i hp with ⟨ag',os,e⟩ | e <;> rw [e] at hk <;> cases hk
  ·rw [hL] at hj;cases hj
 refine (fnH_calls hE hf (hh w g.C) hTw hent0 happ hrel1 rfl rfl hsz htm).mono ?_
 rintro e w' ⟨us,g',st',he,hus,hex,hr',_⟩
 have hfr:=hrel.fr
 have hf1:=hr'.fr
 unfold exitSt at hex
 split at hex
 case h_1=>cases hex
 rename_i os hos
 injection hex with hex
 have hod:os.all isD=true:=mkLs_d (all_isd ho) hos
 have hLx:∀ k,st'.L k=none:=fun k=>by
  rw [<-hex]
  show (match inoutAt s.ps (os.drop s.nres) k with | some l=>some ((0:Nat),l) | none=>none)=none
  rw [inoutAt_v k hp]
 have hφx:∀ i,st'.φ i=resAt s.rs os i:=fun i=>by rw [<-hex]
 refine ⟨us,⟨g'.C,fun _=>none,g.ρ,fun _ _=>[]⟩,st',he,hus,?_,?_,fun k hk=>absurd ((isM_v k hp).symm.trans hk) (by decide)⟩
 ·unfold exitSt
  rw [hos,<- hex]
 ·refine ⟨⟨by rw [hw];exact hf1.size,by rw [hw];exact hf1.os,by rw [hw];exact hf1.tape,by rw [hw];exact hf1.output,fun b hb _=>?_,fun b cs T fr hb hc=>?_,fun b o hb hx=>?_,fun b o hc=>?_,hf1.lim⟩,fun i=>?_,fun k σ l hl=>?_,fun k σ l hl=>?_,fun t b hk=>?_,fun i t want ag l hs=>?_,fun d hd=>?_,fun i k hk=>?_,rfl,fun k k' b _ _ h=>(by cases h),fun k b j x _ h=>(by cases h),fun k b _ h=>(by cases h),fun k b _ h=>(by cases h),fun j j' x x' hj=>?_⟩
  ·rw [hw] at hb ⊢
   exact hf1.old b hb fun _ h=>h
  ·rw [hw] at hb hc
   obtain ⟨cs',fr',q1,q2,q3⟩:=hf1.shape b cs T fr hb hc
   exact ⟨cs',fr',q1,q2,fun o _=>q3 o fun h=>h⟩
  ·rw [hw] at hb
   exact (hf1.com b o hb fun h=>h).trans (hfr.com b o (by rw [hw];exact hb) hx)
  ·exact hf1.mono b o (hfr.mono b o hc)
  ·have h1:=hr'.slots i
   rw [hφx] at h1 ⊢
   rcases resAt_w (rs:=s.rs) (ls:=os) i with ⟨ag,os',e⟩ | e
   ·rw [e] at h1 ⊢
    obtain ⟨cs,h2,h3⟩:=h1
    exact ⟨cs,repLs_to (F:=F01 fn.ntmps w g.C) (g:=g') (g':=⟨g'.C,fun _=>none,g.ρ,fun _ _=>[]⟩) (O:=st'.O) rfl (resAt_d hod e) h2,h3⟩
   ·rw [e];trivial
  ·rw [hLx] at hl;cases hl
  ·rw [hLx] at hl;cases hl
  ·rw [<-hex] at hk;cases hk
  ·rw [hφx] at hs
   rcases resAt_w (rs:=s.rs) (ls:=os) i with ⟨ag',os',e⟩ | e <;> rw [e] at hs <;> cases hs
  ·rw [<-hex] at hd;cases hd
  ·rw [hφx] at hk
   rcases resAt_w (rs:=s.rs) (ls:=os) i with ⟨ag',os',e⟩ | e <;> rw [e] at hk <;> cases hk
  ·rw [hLx] at hj;cases hj
end Pv
end Go.Proofs.YtgfmfgombmpodaaGreatDoor
namespace Go.Proofs.YtgfmfgombmpodaaGreatDoor
open Go.RowKit Pv
set_option linter.unusedVariables false
theorem args_1 {args:Array Value} (h:args.size=1):args = #[args.getD 0 undef]:=by
 obtain ⟨al⟩:=args
 match al,h with
 | [v],_=>rfl
theorem args_2 {args:Array Value} (h:args.size=2):args = #[args.getD 0 undef,args.getD 1 undef]:=by
 obtain ⟨al⟩:=args
 match al,h with
 | [v,u],_=>rfl
theorem args_3 {args:Array Value} (h:args.size=3):args = #[args.getD 0 undef,args.getD 1 undef,args.getD 2 undef]:=by
 obtain ⟨al⟩:=args
 match al,h with
 | [v,u,t],_=>rfl
theorem infoU:(Tryz.prog.info? 5).map (fun i=>(i.zero,i.size,i.bytes))=some (some (.int .u8 0),1,1):=by kernel_rfl
theorem wfQ' {x:Int} (h0:0<=x) (h1:x < 18446744073709551616):(Lit.int .u64 x).wf=true:=by
 simp [Lit.wf,IntKind.min,IntKind.max,IntKind.signed,IntKind.bits]
 omega
end Go.Proofs.YtgfmfgombmpodaaGreatDoor
namespace Go.Proofs
open Go.Shelf Go.RowKit Go.Lib Go.Sort
def Tryz.laysC245_ren:Go.Shelf.Ren:=⟨fun | 245=>197 | 279=>223 | 280=>224 | 281=>225 | 282=>226 | 316=>239 | 171=>67 | 205=>240 | 243=>108 | 246=>144 | 283=>179 | 284=>180 | 285=>181 | 286=>182 | 129=>208 | 317=>207 | 318=>209 | 319=>210 | 320=>211 | 337=>235 | 338=>236 | n=>n,fun | 9=>9 | 3=>3 | 75=>157 | 167=>278 | 4=>4 | 168=>281 | 210=>293 | 37=>32 | 0=>0 | 127=>197 | 145=>301 | 143=>299 | 2=>2 | 171=>241 | 53=>218 | 5=>5 | 173=>244 | 212=>268 | 51=>212 | 20=>20 | 213=>269 | 46=>105 | 232=>297 | 233=>298 | 80=>159 | n=>n,fun | 15=>4 | 16=>5 | 17=>0 | 18=>6 | 19=>7 | n=>n⟩
theorem Tryz.laysC245:Go.Proofs.LaysC.n245 Tryz.prog Tryz.laysC245_ren:={
 mixed:=by kernel_rfl
 f129:=Tryz.func208.trans (congrArg some (by kernel_rfl))
 f171:=Tryz.func67.trans (congrArg some (by kernel_rfl))
 f205:=Tryz.func240.trans (congrArg some (by kernel_rfl))
 f243:=Tryz.func108.trans (congrArg some (by kernel_rfl))
 f245:=Tryz.func197.trans (congrArg some (by kernel_rfl))
 f246:=Tryz.func144.trans (congrArg some (by kernel_rfl))
 f279:=Tryz.func223.trans (congrArg some (by kernel_rfl))
 f280:=Tryz.func224.trans (congrArg some (by kernel_rfl))
 f281:=Tryz.func225.trans (congrArg some (by kernel_rfl))
 f282:=Tryz.func226.trans (congrArg some (by kernel_rfl))
 f283:=Tryz.func179.trans (congrArg some (by kernel_rfl))
 f284:=Tryz.func180.trans (congrArg some (by kernel_rfl))
 f285:=Tryz.func181.trans (congrArg some (by kernel_rfl))
 f286:=Tryz.func182.trans (congrArg some (by kernel_rfl))
 f316:=Tryz.func239.trans (congrArg some (by kernel_rfl))
 f317:=Tryz.func207.trans (congrArg some (by kernel_rfl))
 f318:=Tryz.func209.trans (congrArg some (by kernel_rfl))
 f319:=Tryz.func210.trans (congrArg some (by kernel_rfl))
 f320:=Tryz.func211.trans (congrArg some (by kernel_rfl))
 f337:=Tryz.func235.trans (congrArg some (by kernel_rfl))
 f338:=Tryz.func236.trans (congrArg some (by kernel_rfl))
 t0:=Tryz.underlying0
 a0:=Tryz.isAgg0
 z0:=Tryz.sizeOf0
 v0:=Tryz.zeroValue0
 t2:=Tryz.underlying2
 a2:=Tryz.isAgg2
 z2:=Tryz.sizeOf2
 v2:=Tryz.zeroValue2
 t3:=Tryz.underlying3
 a3:=Tryz.isAgg3
 z3:=Tryz.sizeOf3
 v3:=Tryz.zeroValue3
 t4:=Tryz.underlying4
 a4:=Tryz.isAgg4
 z4:=Tryz.sizeOf4
 v4:=Tryz.zeroValue4
 t5:=Tryz.underlying5
 a5:=Tryz.isAgg5
 z5:=Tryz.sizeOf5
 v5:=Tryz.zeroValue5
 t9:=Tryz.underlying9
 a9:=Tryz.isAgg9
 z9:=Tryz.sizeOf9
 v9:=Tryz.zeroValue9
 t20:=Tryz.underlying20
 a20:=Tryz.isAgg20
 z20:=Tryz.sizeOf20
 v20:=Tryz.zeroValue20
 t37:=Tryz.underlying32
 a37:=Tryz.isAgg32
 z37:=Tryz.sizeOf32
 v37:=Tryz.zeroValue32
 t46:=Tryz.underlying105
 a46:=Tryz.isAgg105
 z46:=Tryz.sizeOf105
 v46:=Tryz.zeroValue105
 t51:=Tryz.underlying212
 a51:=Tryz.isAgg212
 z51:=Tryz.sizeOf212
 v51:=Tryz.zeroValue212
 t53:=Tryz.underlying218
 a53:=Tryz.isAgg218
 z53:=Tryz.sizeOf218
 v53:=Tryz.zeroValue218
 t75:=Tryz.underlying157
 a75:=Tryz.isAgg157
 z75:=Tryz.sizeOf157
 v75:=Tryz.zeroValue157
 t127:=Tryz.underlying197
 a127:=Tryz.isAgg197
 z127:=Tryz.sizeOf197
 v127:=Tryz.zeroValue197
 t143:=Tryz.underlying299
 a143:=Tryz.isAgg299
 z143:=Tryz.sizeOf299
 v143:=Tryz.zeroValue299
 t145:=Tryz.underlying301
 a145:=Tryz.isAgg301
 z145:=Tryz.sizeOf301
 v145:=Tryz.zeroValue301
 t167:=Tryz.underlying278
 a167:=Tryz.isAgg278
 z167:=Tryz.sizeOf278
 v167:=Tryz.zeroValue278
 t168:=Tryz.underlying281
 a168:=Tryz.isAgg281
 z168:=Tryz.sizeOf281
 v168:=Tryz.zeroValue281
 t171:=Tryz.underlying241
 a171:=Tryz.isAgg241
 z171:=Tryz.sizeOf241
 v171:=Tryz.zeroValue241
 t173:=Tryz.underlying244
 a173:=Tryz.isAgg244
 z173:=Tryz.sizeOf244
 v173:=Tryz.zeroValue244
 t210:=Tryz.underlying293
 a210:=Tryz.isAgg293
 z210:=Tryz.sizeOf293
 v210:=Tryz.zeroValue293
 t212:=Tryz.underlying268
 a212:=Tryz.isAgg268
 z212:=Tryz.sizeOf268
 v212:=Tryz.zeroValue268
 t213:=Tryz.underlying269
 a213:=Tryz.isAgg269
 z213:=Tryz.sizeOf269
 t232:=Tryz.underlying297
 a232:=Tryz.isAgg297
 z232:=Tryz.sizeOf297
 v232:=Tryz.zeroValue297
 t233:=Tryz.underlying298
 a233:=Tryz.isAgg298
 z233:=Tryz.sizeOf298
 v233:=Tryz.zeroValue298
 g15:=by kernel_rfl
 g16:=by kernel_rfl
 g17:=by kernel_rfl
 g18:=by kernel_rfl
 g19:=by kernel_rfl
 t80:=Tryz.underlying159
 a80:=Tryz.isAgg159
 z80:=Tryz.sizeOf159
 v80:=Tryz.zeroValue159
 i0:=by kernel_rfl
 i2:=by kernel_rfl
 i3:=by kernel_rfl
 i4:=by kernel_rfl
 i5:=by kernel_rfl
 i9:=by kernel_rfl
 i20:=by kernel_rfl
 i37:=by kernel_rfl
 i46:=by kernel_rfl
 i51:=by kernel_rfl
 i53:=by kernel_rfl
 i75:=by kernel_rfl
 i80:=by kernel_rfl
 i127:=by kernel_rfl
 i143:=by kernel_rfl
 i145:=by kernel_rfl
 i167:=by kernel_rfl
 i168:=by kernel_rfl
 i171:=by kernel_rfl
 i173:=by kernel_rfl
 i210:=by kernel_rfl
 i212:=by kernel_rfl
 i232:=by kernel_rfl
 i233:=by kernel_rfl
 m15:=by kernel_rfl
 m16:=by kernel_rfl
 m17:=by kernel_rfl
 m18:=by kernel_rfl
 m19:=by kernel_rfl
 c0:=by kernel_rfl
 c2:=by kernel_rfl
 c3:=by kernel_rfl
 c4:=by kernel_rfl
 c5:=by kernel_rfl
 c9:=by kernel_rfl
 c20:=by kernel_rfl
 c37:=by kernel_rfl
 c46:=by kernel_rfl
 c51:=by kernel_rfl
 c53:=by kernel_rfl
 c75:=by kernel_rfl
 c80:=by kernel_rfl
 c127:=by kernel_rfl
 c143:=by kernel_rfl
 c145:=by kernel_rfl
 c167:=by kernel_rfl
 c168:=by kernel_rfl
 c171:=by kernel_rfl
 c173:=by kernel_rfl
 c210:=by kernel_rfl
 c212:=by kernel_rfl
 c213:=by kernel_rfl
 c232:=by kernel_rfl
 c233:=by kernel_rfl }
theorem Tryz.strconv_toError_syntax (fn s:ByteArray) (base bits:Int) (ev:Value) (w:World) (hlim:s.size<=281474976710656) (hv:w.cell? ⟨4,0,none⟩=some ev) (hev:ev=.nilIface \/ ∃ te pe,ev=.iface te pe) :
  Calls Tryz.prog 197 #[.string fn,.string s,.int .i64 base,.int .i64 bits,.iface 278 (.int .i64 2)] w fun e w'=>∃ N,e=.returned (.iface 281 (.pointer (some ⟨N,0,none⟩))) /\ w.heap.size<=N /\ w'.heap[N]? = some (.cells #[.string fn,.string s,ev] 293 (0,0)) /\ Below w.heap.size w w':=Any.strconv_toError_syntax Tryz.laysC245 fn s base bits ev w hlim hv hev
def Tryz.laysC172_ren:Go.Shelf.Ren:=⟨fun | 172=>165 | 244=>196 | 245=>197 | 247=>222 | 279=>223 | 280=>224 | 281=>225 | 282=>226 | 287=>199 | 316=>239 | 171=>67 | 205=>240 | 321=>228 | 322=>229 | 243=>108 | 246=>144 | 283=>179 | 284=>180 | 285=>181 | 286=>182 | 129=>208 | 317=>207 | 318=>209 | 319=>210 | 320=>211 | 337=>235 | 338=>236 | n=>n,fun | 9=>9 | 3=>3 | 75=>157 | 76=>178 | 4=>4 | 5=>5 | 167=>278 | 37=>32 | 0=>0 | 85=>279 | 2=>2 | 168=>281 | 53=>218 | 175=>234 | 46=>105 | 210=>293 | 127=>197 | 145=>301 | 143=>299 | 21=>21 | 171=>241 | 173=>244 | 212=>268 | 51=>212 | 20=>20 | 213=>269 | 232=>297 | 233=>298 | 80=>159 | n=>n,fun | 15=>4 | 16=>5 | 17=>0 | 18=>6 | 19=>7 | n=>n⟩
theorem Tryz.laysC172:Go.Proofs.LaysC.n172 Tryz.prog Tryz.laysC172_ren:={
 mixed:=by kernel_rfl
 f129:=Tryz.func208.trans (congrArg some (by kernel_rfl))
 f171:=Tryz.func67.trans (congrArg some (by kernel_rfl))
 f172:=Tryz.func165.trans (congrArg some (by kernel_rfl))
 f205:=Tryz.func240.trans (congrArg some (by kernel_rfl))
 f243:=Tryz.func108.trans (congrArg some (by kernel_rfl))
 f244:=Tryz.func196.trans (congrArg some (by kernel_rfl))
 f245:=Tryz.func197.trans (congrArg some (by kernel_rfl))
 f246:=Tryz.func144.trans (congrArg some (by kernel_rfl))
 f247:=Tryz.func222.trans (congrArg some (by kernel_rfl))
 f279:=Tryz.func223.trans (congrArg some (by kernel_rfl))
 f280:=Tryz.func224.trans (congrArg some (by kernel_rfl))
 f281:=Tryz.func225.trans (congrArg some (by kernel_rfl))
 f282:=Tryz.func226.trans (congrArg some (by kernel_rfl))
 f283:=Tryz.func179.trans (congrArg some (by kernel_rfl))
 f284:=Tryz.func180.trans (congrArg some (by kernel_rfl))
 f285:=Tryz.func181.trans (congrArg some (by kernel_rfl))
 f286:=Tryz.func182.trans (congrArg some (by kernel_rfl))
 f287:=Tryz.func199.trans (congrArg some (by kernel_rfl))
 f316:=Tryz.func239.trans (congrArg some (by kernel_rfl))
 f317:=Tryz.func207.trans (congrArg some (by kernel_rfl))
 f318:=Tryz.func209.trans (congrArg some (by kernel_rfl))
 f319:=Tryz.func210.trans (congrArg some (by kernel_rfl))
 f320:=Tryz.func211.trans (congrArg some (by kernel_rfl))
 f321:=Tryz.func228.trans (congrArg some (by kernel_rfl))
 f322:=Tryz.func229.trans (congrArg some (by kernel_rfl))
 f337:=Tryz.func235.trans (congrArg some (by kernel_rfl))
 f338:=Tryz.func236.trans (congrArg some (by kernel_rfl))
 t0:=Tryz.underlying0
 a0:=Tryz.isAgg0
 z0:=Tryz.sizeOf0
 v0:=Tryz.zeroValue0
 t2:=Tryz.underlying2
 a2:=Tryz.isAgg2
 z2:=Tryz.sizeOf2
 v2:=Tryz.zeroValue2
 t3:=Tryz.underlying3
 a3:=Tryz.isAgg3
 z3:=Tryz.sizeOf3
 v3:=Tryz.zeroValue3
 t4:=Tryz.underlying4
 a4:=Tryz.isAgg4
 z4:=Tryz.sizeOf4
 v4:=Tryz.zeroValue4
 t5:=Tryz.underlying5
 a5:=Tryz.isAgg5
 z5:=Tryz.sizeOf5
 v5:=Tryz.zeroValue5
 t9:=Tryz.underlying9
 a9:=Tryz.isAgg9
 z9:=Tryz.sizeOf9
 v9:=Tryz.zeroValue9
 t20:=Tryz.underlying20
 a20:=Tryz.isAgg20
 z20:=Tryz.sizeOf20
 v20:=Tryz.zeroValue20
 t21:=Tryz.underlying21
 a21:=Tryz.isAgg21
 z21:=Tryz.sizeOf21
 v21:=Tryz.zeroValue21
 t37:=Tryz.underlying32
 a37:=Tryz.isAgg32
 z37:=Tryz.sizeOf32
 v37:=Tryz.zeroValue32
 t46:=Tryz.underlying105
 a46:=Tryz.isAgg105
 z46:=Tryz.sizeOf105
 v46:=Tryz.zeroValue105
 t51:=Tryz.underlying212
 a51:=Tryz.isAgg212
 z51:=Tryz.sizeOf212
 v51:=Tryz.zeroValue212
 t53:=Tryz.underlying218
 a53:=Tryz.isAgg218
 z53:=Tryz.sizeOf218
 v53:=Tryz.zeroValue218
 t75:=Tryz.underlying157
 a75:=Tryz.isAgg157
 z75:=Tryz.sizeOf157
 v75:=Tryz.zeroValue157
 t76:=Tryz.underlying178
 a76:=Tryz.isAgg178
 z76:=Tryz.sizeOf178
 v76:=Tryz.zeroValue178
 t85:=Tryz.underlying279
 a85:=Tryz.isAgg279
 z85:=Tryz.sizeOf279
 v85:=Tryz.zeroValue279
 t127:=Tryz.underlying197
 a127:=Tryz.isAgg197
 z127:=Tryz.sizeOf197
 v127:=Tryz.zeroValue197
 t143:=Tryz.underlying299
 a143:=Tryz.isAgg299
 z143:=Tryz.sizeOf299
 v143:=Tryz.zeroValue299
 t145:=Tryz.underlying301
 a145:=Tryz.isAgg301
 z145:=Tryz.sizeOf301
 v145:=Tryz.zeroValue301
 t167:=Tryz.underlying278
 a167:=Tryz.isAgg278
 z167:=Tryz.sizeOf278
 v167:=Tryz.zeroValue278
 t168:=Tryz.underlying281
 a168:=Tryz.isAgg281
 z168:=Tryz.sizeOf281
 v168:=Tryz.zeroValue281
 t171:=Tryz.underlying241
 a171:=Tryz.isAgg241
 z171:=Tryz.sizeOf241
 v171:=Tryz.zeroValue241
 t173:=Tryz.underlying244
 a173:=Tryz.isAgg244
 z173:=Tryz.sizeOf244
 v173:=Tryz.zeroValue244
 t175:=Tryz.underlying234
 a175:=Tryz.isAgg234
 z175:=Tryz.sizeOf234
 v175:=Tryz.zeroValue234
 t210:=Tryz.underlying293
 a210:=Tryz.isAgg293
 z210:=Tryz.sizeOf293
 v210:=Tryz.zeroValue293
 t212:=Tryz.underlying268
 a212:=Tryz.isAgg268
 z212:=Tryz.sizeOf268
 v212:=Tryz.zeroValue268
 t213:=Tryz.underlying269
 a213:=Tryz.isAgg269
 z213:=Tryz.sizeOf269
 t232:=Tryz.underlying297
 a232:=Tryz.isAgg297
 z232:=Tryz.sizeOf297
 v232:=Tryz.zeroValue297
 t233:=Tryz.underlying298
 a233:=Tryz.isAgg298
 z233:=Tryz.sizeOf298
 v233:=Tryz.zeroValue298
 g15:=by kernel_rfl
 g16:=by kernel_rfl
 g17:=by kernel_rfl
 g18:=by kernel_rfl
 g19:=by kernel_rfl
 t80:=Tryz.underlying159
 a80:=Tryz.isAgg159
 z80:=Tryz.sizeOf159
 v80:=Tryz.zeroValue159
 i0:=by kernel_rfl
 i2:=by kernel_rfl
 i3:=by kernel_rfl
 i4:=by kernel_rfl
 i5:=by kernel_rfl
 i9:=by kernel_rfl
 i20:=by kernel_rfl
 i21:=by kernel_rfl
 i37:=by kernel_rfl
 i46:=by kernel_rfl
 i51:=by kernel_rfl
 i53:=by kernel_rfl
 i75:=by kernel_rfl
 i76:=by kernel_rfl
 i80:=by kernel_rfl
 i85:=by kernel_rfl
 i127:=by kernel_rfl
 i143:=by kernel_rfl
 i145:=by kernel_rfl
 i167:=by kernel_rfl
 i168:=by kernel_rfl
 i171:=by kernel_rfl
 i173:=by kernel_rfl
 i175:=by kernel_rfl
 i210:=by kernel_rfl
 i212:=by kernel_rfl
 i232:=by kernel_rfl
 i233:=by kernel_rfl
 m15:=by kernel_rfl
 m16:=by kernel_rfl
 m17:=by kernel_rfl
 m18:=by kernel_rfl
 m19:=by kernel_rfl
 c0:=by kernel_rfl
 c2:=by kernel_rfl
 c3:=by kernel_rfl
 c4:=by kernel_rfl
 c5:=by kernel_rfl
 c9:=by kernel_rfl
 c20:=by kernel_rfl
 c21:=by kernel_rfl
 c37:=by kernel_rfl
 c46:=by kernel_rfl
 c51:=by kernel_rfl
 c53:=by kernel_rfl
 c75:=by kernel_rfl
 c76:=by kernel_rfl
 c80:=by kernel_rfl
 c85:=by kernel_rfl
 c127:=by kernel_rfl
 c143:=by kernel_rfl
 c145:=by kernel_rfl
 c167:=by kernel_rfl
 c168:=by kernel_rfl
 c171:=by kernel_rfl
 c173:=by kernel_rfl
 c175:=by kernel_rfl
 c210:=by kernel_rfl
 c212:=by kernel_rfl
 c213:=by kernel_rfl
 c232:=by kernel_rfl
 c233:=by kernel_rfl }
theorem Tryz.strconv_Atoi_ok (s:ByteArray) (hmax:s.size<=9223372036854775806) (v:Int) (h:Lib.atoiAll s.data.toList=.ok v) (w:World) :
  Calls Tryz.prog 165 #[.string s] w fun e w'=>e=.returned (.tuple #[.int .i64 v,.nilIface]) /\ (w'=w \/ ∃ t,w'=Lib.bytesWorld w 5 t):=Any.strconv_Atoi_ok Tryz.laysC172 s hmax v h w
theorem Tryz.strconv_Atoi_syntax (s:ByteArray) (hlim:s.size<=281474976710656) (h:Lib.atoiAll s.data.toList=.«syntax») (ev:Value) (w:World) (hv:w.cell? ⟨4,0,none⟩=some ev) (hev:ev=.nilIface \/ ∃ te pe,ev=.iface te pe) :
  Calls Tryz.prog 165 #[.string s] w fun e w'=>∃ N,e=.returned (.tuple #[.int .i64 (0),.iface 281 (.pointer (some ⟨N,0,none⟩))]) /\ w.heap.size<=N /\ w'.heap[N]? = some (.cells #[.string ⟨#[65,116,111,105]⟩,.string s,ev] 293 (0,0)) /\ Below w.heap.size w w':=Any.strconv_Atoi_syntax Tryz.laysC172 s hlim h ev w hv hev
theorem Tryz.strconv_Atoi_range (s:ByteArray) (hlim:s.size<=281474976710656) (h:Lib.atoiAll s.data.toList=.range) (ev:Value) (w:World) (hv:w.cell? ⟨5,0,none⟩=some ev) (hev:ev=.nilIface \/ ∃ te pe,ev=.iface te pe) :
  Calls Tryz.prog 165 #[.string s] w fun e w'=>∃ N,e=.returned (.tuple #[.int .i64 (Lib.atoiSat s.data.toList),.iface 281 (.pointer (some ⟨N,0,none⟩))]) /\ w.heap.size<=N /\ w'.heap[N]? = some (.cells #[.string ⟨#[65,116,111,105]⟩,.string s,ev] 293 (0,0)) /\ Below w.heap.size w w':=Any.strconv_Atoi_range Tryz.laysC172 s hlim h ev w hv hev
def Tryz.lays146_ren:Go.Shelf.Ren:=⟨fun | 146=>94 | 221=>130 | 268=>162 | 138=>163 | 143=>164 | 195=>192 | 197=>193 | 218=>194 | 219=>195 | 260=>217 | 217=>218 | 225=>219 | 224=>220 | 267=>221 | 266=>237 | 314=>238 | n=>n,fun | 9=>9 | 31=>47 | 3=>3 | 4=>4 | 0=>0 | 105=>260 | 21=>21 | 5=>5 | 46=>105 | 119=>287 | 139=>290 | 138=>289 | 146=>276 | 51=>212 | n=>n,fun | 1=>1 | 3=>2 | 4=>3 | n=>n⟩
theorem Tryz.lays146:Go.Proofs.Lays.n146 Tryz.prog Tryz.lays146_ren:={
 mixed:=by kernel_rfl
 f138:=Tryz.func163.trans (congrArg some (by kernel_rfl))
 f143:=Tryz.func164.trans (congrArg some (by kernel_rfl))
 f146:=Tryz.func94.trans (congrArg some (by kernel_rfl))
 f195:=Tryz.func192.trans (congrArg some (by kernel_rfl))
 f197:=Tryz.func193.trans (congrArg some (by kernel_rfl))
 f217:=Tryz.func218.trans (congrArg some (by kernel_rfl))
 f218:=Tryz.func194.trans (congrArg some (by kernel_rfl))
 f219:=Tryz.func195.trans (congrArg some (by kernel_rfl))
 f221:=Tryz.func130.trans (congrArg some (by kernel_rfl))
 f224:=Tryz.func220.trans (congrArg some (by kernel_rfl))
 f225:=Tryz.func219.trans (congrArg some (by kernel_rfl))
 f260:=Tryz.func217.trans (congrArg some (by kernel_rfl))
 f266:=Tryz.func237.trans (congrArg some (by kernel_rfl))
 f267:=Tryz.func221.trans (congrArg some (by kernel_rfl))
 f268:=Tryz.func162.trans (congrArg some (by kernel_rfl))
 f314:=Tryz.func238.trans (congrArg some (by kernel_rfl))
 t0:=Tryz.underlying0
 a0:=Tryz.isAgg0
 z0:=Tryz.sizeOf0
 v0:=Tryz.zeroValue0
 t3:=Tryz.underlying3
 a3:=Tryz.isAgg3
 z3:=Tryz.sizeOf3
 v3:=Tryz.zeroValue3
 t4:=Tryz.underlying4
 a4:=Tryz.isAgg4
 z4:=Tryz.sizeOf4
 v4:=Tryz.zeroValue4
 t5:=Tryz.underlying5
 a5:=Tryz.isAgg5
 z5:=Tryz.sizeOf5
 v5:=Tryz.zeroValue5
 t9:=Tryz.underlying9
 a9:=Tryz.isAgg9
 z9:=Tryz.sizeOf9
 v9:=Tryz.zeroValue9
 t21:=Tryz.underlying21
 a21:=Tryz.isAgg21
 z21:=Tryz.sizeOf21
 v21:=Tryz.zeroValue21
 t31:=Tryz.underlying47
 a31:=Tryz.isAgg47
 z31:=Tryz.sizeOf47
 v31:=Tryz.zeroValue47
 t46:=Tryz.underlying105
 a46:=Tryz.isAgg105
 z46:=Tryz.sizeOf105
 v46:=Tryz.zeroValue105
 t51:=Tryz.underlying212
 a51:=Tryz.isAgg212
 z51:=Tryz.sizeOf212
 v51:=Tryz.zeroValue212
 t105:=Tryz.underlying260
 a105:=Tryz.isAgg260
 z105:=Tryz.sizeOf260
 v105:=Tryz.zeroValue260
 t119:=Tryz.underlying287
 a119:=Tryz.isAgg287
 z119:=Tryz.sizeOf287
 t138:=Tryz.underlying289
 a138:=Tryz.isAgg289
 z138:=Tryz.sizeOf289
 v138:=Tryz.zeroValue289
 t139:=Tryz.underlying290
 a139:=Tryz.isAgg290
 z139:=Tryz.sizeOf290
 v139:=Tryz.zeroValue290
 t146:=Tryz.underlying276
 a146:=Tryz.isAgg276
 z146:=Tryz.sizeOf276
 v146:=Tryz.zeroValue276
 g1:=by kernel_rfl
 g3:=by kernel_rfl
 g4:=by kernel_rfl }
theorem Tryz.strings_Split (s sep:ByteArray) (m:Int) (w:World) (hs:s.size < 4294967281) (hm:w.cell? ⟨1,0,none⟩=some (.int .i64 m)) (h1:1<=sep.size) :
  Calls Tryz.prog 94 #[.string s,.string sep] w fun e w'=>
   e=.returned (.slice (some ⟨w.heap.size,0,none⟩) (Lib.countB s sep+1) (Lib.countB s sep+1)) /\ w'=w.alloc (.cells ((Lib.splitB sep 0 (Lib.countB s sep) s).map Value.string).toArray 9):=Any.strings_Split Tryz.lays146 (by kernel_rfl) s sep m w hs hm h1
end Go.Proofs
namespace Go.Proofs.YtgfmfgombmpodaaGreatDoor
open Go.RowKit Pv
set_option linter.unusedVariables false
def toB (l:List Int):List UInt8:=l.map fun x=>x.toNat.toUInt8
theorem toB_bytes (s:ByteArray):toB (bytesL s)=s.data.toList:=by
 unfold toB bytesL
 rw [List.map_map]
 conv=>rhs;rw [<-List.map_id s.data.toList]
 apply List.map_congr_left
 intro b _
 show (((b.toNat:Nat):Int).toNat).toUInt8=b
 rw [Int.toNat_natCast,Nat.toUInt8_eq,UInt8.ofNat_toNat]
theorem bytes_size {s:ByteArray} {l:List Int} (h:bytesL s=l):s.size=l.length:=by rw [<-h,bytes_len]
def okErr (v:Value):Prop:=v=.nilIface \/ ∃ te pe,v=.iface te pe
def has_errs (T:Tab):Prop:=∃ v1 v2,(4,#[v1])∈T /\ (5,#[v2])∈T /\ okErr v1 /\ okErr v2
def atoiP (l:List Int):Int×Bool:=match Lib.atoiAll (toB l) with
 | .ok v=>(v,false)
 | .syntax=>(0,true)
 | .range=>(Lib.atoiSat (toB l),true)
def F_strconv_Atoi_sig:Sig:=⟨[.v false [.d .str]],[(false,[.d (.int .i64)]),(false,[.d .err])]⟩
def F_strconv_Atoi (l:List Int):Option (Int×Bool):=cond (Nat.ble l.length 281474976710656) (some (atoiP l)) none
theorem below_bytes (w:World) (ty:TypeId) (t:ByteArray):Below w.heap.size w (Lib.bytesWorld w ty t):=⟨rfl,rfl,rfl,by rw [Lib.bytesWorld_size];omega,fun j hj=>Lib.bytesWorld_at_old _ _ _ _ hj⟩
theorem wf_of {q:Int} (h : -9223372036854775808<=q /\ q<=9223372036854775807):(Lit.int .i64 q).wf=true:=by
 simp [Lit.wf,IntKind.min,IntKind.max,IntKind.signed,IntKind.bits]
 omega
theorem err_cell {w:World} {T:Tab} {g:Nat} {v:Value} (hT:∀ p∈T,∃ ty fr,w.heap[p.1]? = some (.cells p.2 ty fr)) (h:(g,#[v])∈T):w.cell? ⟨g,0,none⟩=some v:=by
 obtain ⟨ty,fr,h1⟩:=hT _ h
 rw [cell_at h1];rfl
theorem F_strconv_Atoi_sound {T:Tab} (h_errs:has_errs T):SoundFn Tryz.prog T 165 F_strconv_Atoi_sig ⟨F_strconv_Atoi⟩:=by
  refine sound_d rfl fun F g O xs ls y tmf w args hT hls happ hsz hr=>?_
  obtain ⟨(l:List Int),xs',rfl,h2⟩:=appF_inv_c (ts:=[]) happ
  obtain ⟨rfl,h3⟩:=appF_inv_n h2
  have hls':some [Leaf.d .str l]=some ls:=hls
  injection hls' with hls'
  subst hls'
  obtain ⟨s,e0,e1,e2⟩:=rel_str (hr 0)
  rw [args_1 hsz,e0]
  have h3:cond (Nat.ble l.length 281474976710656) (some (atoiP l)) none=some y:=h3
  cases hb:Nat.ble l.length 281474976710656 with
  | false=>rw [hb] at h3;cases h3
  | true=>
    rw [hb] at h3
    have hy:atoiP l=y:=by injection h3
    have hlen:s.size<=281474976710656:=by rw [bytes_size e1];exact Nat.le_of_ble_eq_true hb
    have hB:toB l=s.data.toList:=by rw [<-e1];exact toB_bytes s
    have fin : ∀ (v : Int) (er : Value) (b : Bool) (w' : World), y = (v, b) -> Below w.heap.size w w' -> -9223372036854775808 <= v /\ v <= 9223372036854775807 -> ((b = false /\ er = .nilIface) \/ (b = true /\ ∃ t q, er = .iface t q)) ->
        ∃ us os,Ending.returned (.tuple #[.int .i64 v,er])=.returned (retV us) /\ us.length=F_strconv_Atoi_sig.rs.length /\ mkLs (Tok.hd 0) F_strconv_Atoi_sig.outs 0 (unpackD (F_strconv_Atoi_sig.outs.map LT.ty) y)=some os /\ Below w.heap.size w w' /\
          ∀ i,i < F_strconv_Atoi_sig.rs.length->RelP F ⟨g.C,fun _=>none,g.ρ,fun _ _=>[]⟩ w' (exitO F_strconv_Atoi_sig) tmf (us.getD i undef) (resAt F_strconv_Atoi_sig.rs os i):=fun v er b w' hy hbel hv her=>by
      subst hy
      refine ⟨[.int .i64 v,er],[.d (.int .i64) v,.d .err b],rfl,rfl,rfl,hbel,fun i hi=>?_⟩
      match i,hi with
      | 0,_=>exact ⟨[.int .i64 v],⟨_,[],rfl,⟨rfl,wf_of hv⟩,rfl⟩,rfl⟩
      | 1,_=>exact ⟨[er],⟨[er],[],rfl,⟨er,rfl,her⟩,rfl⟩,rfl⟩
    obtain ⟨v1,v2,hm1,hm2,ok1,ok2⟩:=h_errs
    unfold atoiP at hy
    cases ha:Lib.atoiAll (toB l) with
    | ok v=>
      rw [ha] at hy
      rw [hB] at ha
      refine (Tryz.strconv_Atoi_ok s (by omega) v ha w).mono ?_
      rintro e w' ⟨rfl,hw⟩
      exact fin v .nilIface false w' hy.symm (by rcases hw with rfl | ⟨t,rfl⟩;exact Below.refl _ _;exact below_bytes _ _ _) (Lib.atoiAll_bounds ha) (.inl ⟨rfl,rfl⟩)
    | «syntax»=>
      rw [ha] at hy
      rw [hB] at ha
      refine (Tryz.strconv_Atoi_syntax s hlen ha v1 w (err_cell hT hm1) ok1).mono ?_
      rintro e w' ⟨N,rfl,_,_,hbel⟩
      exact fin 0 _ true w' hy.symm hbel (by omega) (.inr ⟨rfl,_,_,rfl⟩)
    | range=>
      rw [ha] at hy
      rw [hB] at ha hy
      refine (Tryz.strconv_Atoi_range s hlen ha v2 w (err_cell hT hm2) ok2).mono ?_
      rintro e w' ⟨N,rfl,_,_,hbel⟩
      exact fin _ _ true w' hy.symm hbel (Lib.atoiSat_bounds _) (.inr ⟨rfl,_,_,rfl⟩)
def splitI:List Int->Int->List (List Int)
 | [],_=>[[]]
 | x::s,c=>cond (x==c) ([]::splitI s c) (match splitI s c with | []=>[[x]] | w::r=>(x::w)::r)
theorem splitI_ne (s:List Int) (c:Int):splitI s c≠[]:=by
 cases s with
 | nil=>simp [splitI]
 | cons x s=>
  unfold splitI
  cases x==c
  ·rw [cond_false];split <;> simp
  ·simp
theorem splitI_miss:∀ {s:List Int} {c:Int},(∀ x∈s,x≠c)->splitI s c=[s]
 | [],_,_=>rfl
 | x::s,c,h=>by
  have ih:=splitI_miss (s:=s) (c:=c) fun y hy=>h y (by simp [hy])
  unfold splitI
  rw [ih,beq_eq_false_iff_ne.2 (h x (by simp)),cond_false]
theorem splitI_hit:∀ {u v:List Int} {c:Int},(∀ x∈u,x≠c)->splitI (u++c::v) c=u::splitI v c
 | [],v,c,_=>by
  show cond (c==c) ([]::splitI v c) _=_
  rw [beq_self_eq_true];rfl
 | x::u,v,c,h=>by
  have ih:=splitI_hit (u:=u) (v:=v) (c:=c) fun y hy=>h y (by simp [hy])
  show cond (x==c) _ (match splitI (u++c::v) c with | []=>[[x]] | w::r=>(x::w)::r)=_
  rw [ih,beq_eq_false_iff_ne.2 (h x (by simp)),cond_false]
theorem splitI_sum:∀ (s:List Int) (c:Int),((splitI s c).map List.length).sum+(splitI s c).length=s.length+1
 | [],c=>rfl
 | x::s,c=>by
  have ih:=splitI_sum s c
  unfold splitI
  cases x==c
  ·rw [cond_false]
   cases h:splitI s c with
   | nil=>exact absurd h (splitI_ne s c)
   | cons w r=>
    rw [h] at ih
    simp only [List.map_cons,List.sum_cons,List.length_cons] at ih ⊢
    omega
  ·simp only [cond_true,List.map_cons,List.sum_cons,List.length_cons,List.length_nil]
   omega
theorem index_byte (c:UInt8):∀ l:List UInt8,Lib.index l [c]=Lib.indexByte l c
 | []=>rfl
 | b::l=>by
  have ih:=index_byte c l
  unfold Lib.index Lib.indexByte
  rw [ih]
  have e:([c].isPrefixOf (b::l))=(b==c):=by
   show (c==b&&List.isPrefixOf [] l)=_
   rw [show List.isPrefixOf [] l=true by cases l <;> rfl,Bool.and_true]
   by_cases h:b=c
   ·subst h;simp
   ·rw [beq_eq_false_iff_ne.2 h,beq_eq_false_iff_ne.2 (Ne.symm h)]
  rw [e]
theorem byteI_ne {a b:UInt8} (h:a≠b):byteI a≠byteI b:=fun e=>h (UInt8.toNat_inj.1 (by unfold byteI at e;exact Int.ofNat.inj e))
theorem indexB_byte (c:UInt8) (s:ByteArray):Lib.indexB s ⟨#[c]⟩=Lib.indexByte s.data.toList c:=index_byte c _
theorem no_byte {s:ByteArray} {c:UInt8} (h:Lib.indexByte s.data.toList c = -1):∀ x∈bytesL s,x≠byteI c:=fun x hx e=>by
 obtain ⟨b,hb,rfl⟩:=List.mem_map.1 hx
 obtain ⟨k,hk⟩:=List.mem_iff_getElem?.1 hb
 have hbc:b=c:=by
  by_cases hbc:b=c
  ·exact hbc
  ·exact absurd e (byteI_ne hbc)
 rw [hbc] at hk
 exact Lib.indexByte_none h k hk
theorem at_byte {s:ByteArray} {c:UInt8} {i:Nat} (h:Lib.indexByte s.data.toList c=i):bytesL s=(bytesL s).take i++byteI c::(bytesL s).drop (i+1) /\ ∀ x∈(bytesL s).take i,x≠byteI c:=by
 obtain ⟨h1,h2⟩:=Lib.indexByte_some h
 have hi:i < s.data.toList.length:=(List.getElem?_eq_some_iff.1 h1).1
 have hg:(bytesL s)[i]? = some (byteI c):=by
  show (s.data.toList.map byteI)[i]? = _
  rw [List.getElem?_map,h1];rfl
 refine ⟨?_,fun x hx e=>?_⟩
 ·have hlt:i < (bytesL s).length:=(List.getElem?_eq_some_iff.1 hg).1
  have hge:(bytesL s)[i]=byteI c:=by
   rw [List.getElem?_eq_getElem hlt] at hg
   exact Option.some.inj hg
  rw [<-hge,<- List.drop_eq_getElem_cons hlt,List.take_append_drop]
 ·obtain ⟨j,hj⟩:=List.mem_iff_getElem?.1 hx
  rw [List.getElem?_take] at hj
  split at hj
  ·rename_i hji
   have hj':(s.data.toList.map byteI)[j]? = some x:=hj
   rw [List.getElem?_map] at hj'
   obtain ⟨b,hb,rfl⟩:=Option.map_eq_some_iff.1 hj'
   have hbc:b=c:=by
    by_cases hbc:b=c
    ·exact hbc
    ·exact absurd e (byteI_ne hbc)
   rw [hbc] at hb
   exact h2 j hji hb
  ·cases hj
theorem splitB_I (c:UInt8):∀ (k:Nat) (s:ByteArray),Lib.countB s ⟨#[c]⟩=k->(Lib.splitB ⟨#[c]⟩ 0 k s).map bytesL=splitI (bytesL s) (byteI c):=by
 intro k
 induction k with
 | zero=>
  intro s hk
  rcases Lib.indexB_cases s ⟨#[c]⟩ with h | ⟨i,h,hi⟩
  ·rw [Lib.splitB_zero,splitI_miss (no_byte (by rw [<-indexB_byte];exact h))];rfl
  ·rw [Lib.countB_hit s ⟨#[c]⟩ i (Nat.le_refl _) h] at hk
   omega
 | succ k ih=>
  intro s hk
  rcases Lib.indexB_cases s ⟨#[c]⟩ with h | ⟨i,h,hi⟩
  ·rw [Lib.countB_miss s ⟨#[c]⟩ h] at hk
   cases hk
  ·rw [Lib.countB_hit s ⟨#[c]⟩ i (Nat.le_refl _) h] at hk
   rw [Lib.splitB_hit _ _ _ _ _ h,List.map_cons,ih _ (by omega)]
   obtain ⟨h1,h2⟩:=at_byte (s:=s) (c:=c) (i:=i) (by rw [<-indexB_byte];exact h)
   have e1:bytesL (s.extract 0 (i+0))=(bytesL s).take i:=by rw [bytes_extract,List.drop_zero,Nat.add_zero]
   have e2:bytesL (s.extract (i+(⟨#[c]⟩:ByteArray).size) s.size)=(bytesL s).drop (i+1):=by
    rw [bytes_extract,List.take_of_length_le (by rw [bytes_len];omega)]
    rfl
   rw [e1,e2]
   conv=>rhs;rw [h1]
   rw [splitI_hit h2]
theorem mem_sum:∀ {l:List Nat} {n:Nat},n∈l->n<=l.sum
 | m::l,n,h=>by
  rw [List.sum_cons]
  rcases List.mem_cons.1 h with rfl | h
  ·omega
  ·have:=mem_sum h;omega
def has_maxlen (T:Tab):Prop:=∃ m:Int,(1,#[Value.int .i64 m])∈T
def F_strings_Split_sig:Sig:=⟨[.v false [.d .str],.v false [.d .str]],[(false,[.own 9 .str])]⟩
def F_strings_Split (s t:List Int):Option (List (List Int)):=match t with
 | [c]=>cond (Nat.ble s.length 4000000000) (some (splitI s c)) none
 | _=>none
theorem F_strings_Split_sound {T:Tab} (h_maxlen:has_maxlen T):SoundFn Tryz.prog T 94 F_strings_Split_sig ⟨F_strings_Split⟩:=by
 refine sound_of rfl fun F g O xs ls y tmf w args hT hw hlim hls happ hsz hr=>?_
 obtain ⟨(l:List Int),xs',rfl,h2⟩:=appF_inv_c (ts:=[.str]) happ
 obtain ⟨(m:List Int),xs'',rfl,h2'⟩:=appF_inv_c (ts:=[]) h2
 obtain ⟨rfl,h3⟩:=appF_inv_n h2'
 have hls':some [Leaf.d .str l,Leaf.d .str m]=some ls:=hls
 injection hls' with hls'
 subst hls'
 obtain ⟨s,e0,e1,e2⟩:=rel_str (hr 0)
 obtain ⟨t,f0,f1,f2⟩:=rel_str (hr 1)
 rw [args_2 hsz,e0,f0]
 have h3:F_strings_Split l m=some y:=h3
 obtain ⟨c,rfl⟩:∃ c,m=[c]:=by
  match m,h3 with
  | [],h3=>cases h3
  | [c],_=>exact ⟨c,rfl⟩
  | _::_::_,h3=>cases h3
 have h3:cond (Nat.ble l.length 4000000000) (some (splitI l c)) none=some y:=h3
 have htl:=bytes_size f1
 obtain ⟨cb,rfl⟩:=Lib.one_byte t htl
 have hcb:byteI cb=c:=by
  have:[byteI cb]=[c]:=f1
  injection this
 cases hb:Nat.ble l.length 4000000000 with
 | false=>rw [hb] at h3;cases h3
 | true=>
  rw [hb] at h3
  have hy:splitI l c=y:=by injection h3
  have hle:l.length<=4000000000:=Nat.le_of_ble_eq_true hb
  have hsl:=bytes_size e1
  obtain ⟨mx,hmx⟩:=h_maxlen
  refine (Tryz.strings_Split s ⟨#[cb]⟩ mx w (by omega) (err_cell hT hmx) (Nat.le_refl _)).mono ?_
  rintro e w' ⟨rfl,rfl⟩
  have hmap:(Lib.splitB ⟨#[cb]⟩ 0 (Lib.countB s ⟨#[cb]⟩) s).map bytesL=y:=by rw [splitB_I cb _ s rfl,e1,hcb,hy]
  have hsb:=Lib.splitB_all ⟨#[cb]⟩ (Nat.le_refl _) 0 _ s rfl
  have hyl:List.length (α:=List Int) y=Lib.countB s ⟨#[cb]⟩+1:=by
   rw [<-hmap]
   show ((Lib.splitB ⟨#[cb]⟩ 0 (Lib.countB s ⟨#[cb]⟩) s).map bytesL).length=_
   rw [List.length_map];exact hsb
  have hcn:=Lib.countB_le ⟨#[cb]⟩ (Nat.le_refl _) s.size s (Nat.le_refl _)
  have hbel:Below w.heap.size w (w.alloc (.cells ((Lib.splitB ⟨#[cb]⟩ 0 (Lib.countB s ⟨#[cb]⟩) s).map Value.string).toArray 9)):=(Below.refl _ w).alloc (Nat.le_refl _) _
  have hnew:=heap_alloc_new w (.cells ((Lib.splitB ⟨#[cb]⟩ 0 (Lib.countB s ⟨#[cb]⟩) s).map Value.string).toArray 9)
  generalize hSS:Lib.splitB ⟨#[cb]⟩ 0 (Lib.countB s ⟨#[cb]⟩) s=ss at *
  have hszs:∀ (i:Nat) (x:ByteArray),ss[i]? = some x->bytesL x∈(show List (List Int) from y):=fun i x hi=>by
   rw [<-hmap]
   exact List.mem_map.2 ⟨x,List.mem_of_getElem? hi,rfl⟩
  have hmem:∀ z∈(show List (List Int) from y),z.length<=l.length:=fun z hz=>by
   have h1:=splitI_sum l c
   rw [hy] at h1
   have h2:z.length<=((show List (List Int) from y).map List.length).sum:=mem_sum (List.mem_map.2 ⟨z,hz,rfl⟩)
   have h3:1<=List.length (α:=List Int) y:=by omega
   have h1:((show List (List Int) from y).map List.length).sum+List.length (α:=List Int) y=l.length+1:=h1
   omega
  have hcell:∀ (i:Nat) (x:List Int),(show List (List Int) from y)[i]? = some x -> ∃ s:ByteArray,ss[i]? = some s /\ bytesL s=x:=fun i x hx=>by
   rw [<-hmap,List.getElem?_map] at hx
   obtain ⟨q,h1,h2⟩:=Option.map_eq_some_iff.1 hx
   exact ⟨q,h1,h2⟩
  rw [<-hyl]
  refine own_out (e:=.str) (l:=y) hw hlim hbel (Nat.le_refl _) hnew (Nat.le_refl _) (by rw [hyl];unfold maxLen;omega) ?_ (fun i x hx=>?_) rfl rfl
  ·show (ss.map Value.string).toArray.size=List.length (α:=List Int) y*1
   rw [hyl]
   simp [hsb]
  ·obtain ⟨q,h1,h2⟩:=hcell i x hx
   refine ⟨q,?_,h2,by rw [bytes_size h2];have:=hmem x (List.mem_of_getElem? hx);unfold maxLen;omega⟩
   show ((ss.map Value.string).toArray.toList.drop (i*1)).take 1=_
   rw [List.toList_toArray,Nat.mul_one]
   have hi:i < (ss.map Value.string).length:=by
    rw [List.length_map];exact (List.getElem?_eq_some_iff.1 h1).1
   rw [List.drop_eq_getElem_cons hi,List.take_succ_cons,List.take_zero]
   have:(ss.map Value.string)[i]? = some (.string q):=by rw [List.getElem?_map,h1];rfl
   rw [List.getElem?_eq_getElem hi] at this
   rw [Option.some.inj this]
theorem handed_of_laid_shaped {H:Type} {enc:TypeId×Value->H} {a:Assume} {C:Checked} {os:Os} {f:FuncId} {fn:Func} {s:ChangeSpec} {conds:List PathCond} {apart fresh handsOn again:Bool} {X:World->Array Value->Prop}
  (hX:∀ (w w':World) (args:Array Value),w.heap=w'.heap->X w args->X w' args)
  (own:ownKnob C.prog.godebug=none) (started:os.Started) (noInit:C.prog.inits.idxOf? f=none) (hfn:C.prog.funcs[f]? = some fn)
  (witness:∃ (w:World) (tape:Tape) (i:Input),w.os=os /\ (w.forCall tape i).Shaped C.prog /\ i.vars=[] /\ Input.okWide C.prog (w.forCall tape i) .any w.heap.size f i /\
   ((s.pre enc C.prog fn conds apart (w.forCall tape i).memory i.args /\ X (w.forCall tape i).memory i.args) /\ sizedMet enc C.prog fn (OpenSpec.ofChange s) apart (w.forCall tape i).memory i.args) /\ a.holds C.prog (lone (Frame.enter C.prog f i.args .normal) [] (w.forCall tape i)))
  (contract:∀ (W:World) (base:Nat) (args:Array Value) (ds gs:List (DataW H)) (before:List MemPlace),
   (∀ (j:Nat) t v,fn.params[j]? = some t->args[j]? = some v->Value.okWide C.prog W .any base t v) ->
   DataW.Whole enc C.prog fn.params.toList s.vars apart W args.toList ds gs before->X W args->W.ShapedOpen C.prog ->
   Calls C.prog f args W fun e W'=>∃ v,e=.returned v /\ s.post enc C.prog fn apart fresh handsOn again W args v W') :
  ReturnsInHanded a C os f .any (fun w args=>(s.pre enc C.prog fn conds apart w args /\ X w args) /\ sizedMet enc C.prog fn (OpenSpec.ofChange s) apart w args) (s.post enc C.prog fn apart fresh handsOn again):=by
 refine returnsInHanded_of_calls own started noInit witness ?_
 intro w tape i _ hsh _ hok hpre hholds
 obtain ⟨_,_,_,fn',hfn',_,_,_,_,hval⟩:=hok
 have e:fn'=fn:=Option.some.inj (hfn'.symm.trans hfn)
 subst e
 obtain ⟨⟨⟨ds,gs,before,hw,hc⟩,hx⟩,hz⟩:=hpre
 have hw':=DataW.Whole.of_heap (w':=w.forCall tape i) (by rfl) hw
 refine (contract (w.forCall tape i) w.heap.size i.args ds gs before hval hw' (hX _ _ _ (by rfl) hx) hsh).mono fun e W' ⟨v,he,hp⟩=>?_
 subst he
 exact ChangeSpec.post_blind hp
theorem err_laid {P:Program} {W:World} {l:List (String×DataW Unit)} {name n:String} {D d:DataW Unit} (hD:D=.iface n d) {g:Nat} {t:TypeId} {ms:Array (String×TypeId)}
  (h:laidMetH P l W) (hl:(l.filter fun x=>x.1==name)=[(name,D)]) (hh:D.handleName? = none) (hg:P.globalNamed name=some g) (hty:(P.globals[g]?).map (·.type)=some t) (ht:P.underlying t=some (.interface ms)) :
  ∃ v,(∃ ty fr,W.heap[g]? = some (.cells #[v] ty fr)) /\ okErr v:=by
 have h1:=laidMetH.filter (fun x=>x.1==name) h
 rw [hl,MakeChecks.laidMetH_plain _ _ _ (by simp [hh])] at h1
 subst hD
 obtain ⟨ps,⟨g',t',cs,fuel,p,q,hg',ht',hvar,hd,_,_⟩,_⟩:=h1
 obtain rfl:=Option.some.inj (hg.symm.trans hg')
 obtain rfl:=Option.some.inj (hty.symm.trans ht')
 obtain ⟨_,u,v,hcs,_,_⟩:=iface_of_trod ht hd
 unfold World.var? at hvar
 rw [hg,Option.bind_some] at hvar
 split at hvar
 ·rename_i cs' ty fr hc
  injection hvar with hvar
  subst hvar
  obtain rfl:cs' = #[.iface u v]:=by
   cases cs'
   simp_all
  exact ⟨_,⟨ty,fr,hc⟩,.inr ⟨u,v,rfl⟩⟩
 ·cases hvar
theorem int_shaped {P:Program} {w:World} {g:Nat} {t:TypeId} {zero:Array Value} {k:IntKind}
  (h:w.ShapedOpen P) (hg:g < P.globals.size)
  (h0:((begin P (fun _ _=>0) default).world.heap[g]?).bind Obj.row? = some (zero,t)) (hz:zero.size=1)
  (hb:P.buildable t=true) (hc:P.cellTypes P.depth t=some [t]) (hu:P.underlying t=some (.int k)) :
  ∃ m,∃ ty fr,w.heap[g]? = some (.cells #[.int k m] ty fr):=by
 obtain ⟨m,hm⟩:=cell_of_shapedOpen_int h hg h0 hz hb hc hu
 obtain ⟨cs,hh,hs,_⟩:=h.1 g zero t hg h0
 rw [cell_at hh] at hm
 obtain ⟨al⟩:=cs
 match al,hs,hm with
 | [v],_,hm=>
  have hm:some v=some (.int k m):=hm
  injection hm with hm
  subst hm
  exact ⟨m,_,_,hh⟩
 | [],hs,_=>rw [hz] at hs;simp at hs
 | _::_::_,hs,_=>rw [hz] at hs;simp at hs
end Go.Proofs.YtgfmfgombmpodaaGreatDoor
namespace Go.Proofs.YtgfmfgombmpodaaGreatDoor
open Go.RowKit Go.Lib Pv
set_option linter.unusedVariables false
def ruleT:Ty:=.pr .bool (.pr (.int .i64) (.pr .str (.pr (.pr .str (.int .i64)) (.pr (.int .i64) (.int .i64)))))
def ruleZ:Value:=.agg #[.bool false,.int .i64 0,.string ⟨#[]⟩,.string ⟨#[]⟩,.int .i64 0,.int .i64 0,.int .i64 0]
theorem infoR:(Tryz.prog.info? 68).map (fun i=>(i.zero,i.size,i.bytes))=some (some ruleZ,7,72):=by kernel_rfl
inductive Role where
 | no | rdr | map | usr | flat
 | row (i:Nat)
def noC:Com:=fun _ _=>False
abbrev RuleD:=Bool×Int×List Int×(List Int×Int)×Int×Int
abbrev UserD:=List Int×(List Int×List Int)×Int×(Nat×Nat)×List RuleD
def userT:Ty:=.pr .str (.pr (.pr (.sl (.int .u8)) (.sl (.int .u8))) (.pr (.int .i64) (.pr (.cpx .f64) (.sl ruleT))))
structure RSt where
 c0:Int
 c1:Int
 c2:Int
 c3:Int
 c4:Int
 c5:Int
 c6:Int
 told:List (List Int)
 us:List UserD
def flatT:Ty->Bool
 | .sl _=>false
 | .arr _ e=>flatT e
 | .pr a b=>flatT a&&flatT b
 | _=>true
theorem repD_flat {w w':World} {C C':Com}:∀ {t:Ty} {x:t.D} {cs:List Value},flatT t=true->RepD w C t x cs->RepD w' C' t x cs
 | .int _,_,_,_,h=>h
 | .bool,_,_,_,h=>h
 | .str,_,_,_,h=>h
 | .flo _,_,_,_,h=>h
 | .cpx _,_,_,_,h=>h
 | .err,_,_,_,h=>h
 | .un,_,_,_,h=>h
 | .sl _,_,_,hf,_=>by cases hf
 | .arr n e,x,cs,hf,h=>⟨h.1,h.2.1,fun i y hy=>repD_flat hf (h.2.2 i y hy)⟩
 | .pr a b,x,cs,hf,h=>by
  obtain ⟨c1,c2,h1,h2,h3⟩:=h
  have hf:(flatT a&&flatT b)=true:=hf
  rw [Bool.and_eq_true] at hf
  exact ⟨c1,c2,h1,repD_flat hf.1 h2,repD_flat hf.2 h3⟩
def RowAt (lo:Nat) (w:World) (role:Nat->Role) (ro:Role) (E:TypeId) (e:Ty) (l:List e.D) (v:Value):Prop:=
 ∃ xs,w.ownsRow lo E e.size v (List.length l) xs /\ (∀ b,v.ownBlock=some b->role b=ro) /\ ∀ (i:Nat) (x:e.D),l[i]? = some x->RepD w noC e x ((xs.drop (i*e.size)).take e.size)
theorem owns_keep {lo:Nat} {w w':World} {E:TypeId} {s n:Nat} {v:Value} {xs:List Value} (h:w.ownsRow lo E s v n xs) (hk:∀ b,v.ownBlock=some b->w'.heap[b]? = w.heap[b]?):w'.ownsRow lo E s v n xs:=by
 refine ⟨h.1,?_⟩
 rcases h.2 with hn | ⟨g,cap,cur,rfl,hb,hg,rest⟩
 ·exact .inl hn
 ·exact .inr ⟨g,cap,cur,rfl,hb,(hk g rfl).trans hg,rest⟩
theorem RowAt.keep {lo:Nat} {w w':World} {role role':Nat->Role} {ro:Role} {E:TypeId} {e:Ty} {l:List e.D} {v:Value} (h:RowAt lo w role ro E e l v) (he:flatT e=true) (hne:ro≠.no) (hk:∀ b,role b=ro->role' b=ro /\ w'.heap[b]? = w.heap[b]?):RowAt lo w' role' ro E e l v:=by
 obtain ⟨xs,h1,h2,h3⟩:=h
 exact ⟨xs,owns_keep h1 fun b hb=>(hk b (h2 b hb)).2,fun b hb=>(hk b (h2 b hb)).1,fun i x hx=>repD_flat he (h3 i x hx)⟩
def UserAt (lo:Nat) (w:World) (role:Nat->Role) (i:Nat) (u:UserD) (cs:List Value):Prop:=
 ∃ (nm:ByteArray) (vs vd vr:Value),cs=[.string nm,vs,vd,.int .i64 u.2.2.1,.complex .f64 u.2.2.2.1.1 u.2.2.2.1.2,vr] /\ bytesL nm=u.1 /\ nm.size<=maxLen /\ (Lit.int .i64 u.2.2.1).wf=true /\
  RowAt lo w role .flat 5 (.int .u8) u.2.1.1 vs /\ RowAt lo w role .flat 5 (.int .u8) u.2.1.2 vd /\ RowAt lo w role (.row i) 68 ruleT u.2.2.2.2 vr
def UsAt (lo:Nat) (w:World) (role:Nat->Role) (us:List UserD) (v:Value):Prop:=
 ∃ xs,w.ownsRow lo 63 6 v us.length xs /\ (∀ b,v.ownBlock=some b->role b=.usr) /\ ∀ i u,us[i]? = some u->UserAt lo w role i u ((xs.drop (i*6)).take 6)
def MapB (w:World) (m:Nat) (ks:List (List Int)):Prop:=∃ es clock,w.heap[m]? = some (.map es clock) /\ (∀ e∈es.toList,e.born < clock) /\ ∃ bs:List ByteArray,bs.map bytesL=ks /\ es.toList.map (fun e=>(e.key,e.val))=bs.map fun s=>(Value.string s,Value.bool true)
def RSt.ints (x:RSt):List Int:=[x.c0,x.c1,x.c2,x.c3,x.c4,x.c5,x.c6]
structure RdAt (lo:Nat) (w:World) (R M:Nat) (v:Value) (role:Nat->Role) (x:RSt):Prop where
 hR:w.heap[R]? = some (.cells #[.int .i64 x.c0,.int .i64 x.c1,.int .i64 x.c2,.int .i64 x.c3,.int .i64 x.c4,.int .i64 x.c5,.int .i64 x.c6,v,.map (some M)] 110 (0,0))
 rR:role R=.rdr
 hM:MapB w M x.told
 rM:role M=.map
 hU:UsAt lo w role x.us v
 lt:∀ b,role b≠.no->lo<=b /\ b < w.heap.size
 wf:∀ c∈x.ints,(Lit.int .i64 c).wf=true
theorem UserAt.keep {lo:Nat} {w w':World} {role role':Nat->Role} {i:Nat} {u:UserD} {cs:List Value} (h:UserAt lo w role i u cs) (hk:∀ b,role b=.flat \/ role b=.row i->role' b=role b /\ w'.heap[b]? = w.heap[b]?):UserAt lo w' role' i u cs:=by
 obtain ⟨nm,vs,vd,vr,h1,h2,h3,h4,h5,h6,h7⟩:=h
 refine ⟨nm,vs,vd,vr,h1,h2,h3,h4,h5.keep rfl (by intro e;cases e) fun b hb=>?_,h6.keep rfl (by intro e;cases e) fun b hb=>?_,h7.keep rfl (by intro e;cases e) fun b hb=>?_⟩
 ·obtain ⟨q1,q2⟩:=hk b (.inl hb)
  exact ⟨q1.trans hb,q2⟩
 ·obtain ⟨q1,q2⟩:=hk b (.inl hb)
  exact ⟨q1.trans hb,q2⟩
 ·obtain ⟨q1,q2⟩:=hk b (.inr hb)
  exact ⟨q1.trans hb,q2⟩
theorem MapB.keep {w w':World} {m:Nat} {ks:List (List Int)} (h:MapB w m ks) (hk:w'.heap[m]? = w.heap[m]?):MapB w' m ks:=by
 obtain ⟨es,clock,h1,h2⟩:=h
 exact ⟨es,clock,hk.trans h1,h2⟩
theorem RdAt.keep {lo:Nat} {w w':World} {R M:Nat} {v:Value} {role:Nat->Role} {x:RSt} (h:RdAt lo w R M v role x) (hk:∀ b,role b≠.no->w'.heap[b]? = w.heap[b]?) (hs:w.heap.size<=w'.heap.size):RdAt lo w' R M v role x:=by
 obtain ⟨xs,u1,u2,u3⟩:=h.hU
 refine ⟨(hk R (by rw [h.rR];intro e;cases e)).trans h.hR,h.rR,h.hM.keep (hk M (by rw [h.rM];intro e;cases e)),h.rM,⟨xs,owns_keep u1 fun b hb=>hk b (by rw [u2 b hb];intro e;cases e),u2,fun i u hu=>(u3 i u hu).keep fun b hb=>⟨rfl,hk b ?_⟩⟩,fun b hb=>?_,h.wf⟩
 ·rcases hb with hb | hb <;> (rw [hb];intro e;cases e)
 ·obtain ⟨h1,h2⟩:=h.lt b hb
  exact ⟨h1,by omega⟩
theorem RdAt.below {lo:Nat} {w w':World} {R M:Nat} {v:Value} {role:Nat->Role} {x:RSt} (h:RdAt lo w R M v role x) (hb:Below w.heap.size w w'):RdAt lo w' R M v role x:=
 h.keep (fun b hr=>hb.block b (h.lt b hr).2) hb.size
theorem cells9 {w:World} {b:Nat} {v0 v1 v2 v3 v4 v5 v6 v7 v8:Value} {T:TypeId} (h:w.heap[b]? = some (.cells #[v0,v1,v2,v3,v4,v5,v6,v7,v8] T (0,0))):w.cell? ⟨b,0,none⟩=some v0 /\ w.cell? ⟨b,1,none⟩=some v1 /\ w.cell? ⟨b,2,none⟩=some v2 /\ w.cell? ⟨b,3,none⟩=some v3 /\ w.cell? ⟨b,4,none⟩=some v4 /\ w.cell? ⟨b,5,none⟩=some v5 /\ w.cell? ⟨b,6,none⟩=some v6 /\ w.cell? ⟨b,7,none⟩=some v7 /\ w.cell? ⟨b,8,none⟩=some v8 /\ ∀ o,w.frozen? ⟨b,o,none⟩=false:=by
 refine ⟨?_,?_,?_,?_,?_,?_,?_,?_,?_,fun o=>?_⟩ <;> first | (rw [cell_at h];rfl) | simp [World.frozen?,h]
theorem user_cells {lo:Nat} {w:World} {us:List UserD} {U n cap:Nat} {xs:List Value} (h:w.ownsRow lo 63 6 (.slice (some ⟨U,0,none⟩) n cap) us.length xs) {i:Nat} {c0 c1 c2 c3 c4 c5:Value} (hc:(xs.drop (i*6)).take 6=[c0,c1,c2,c3,c4,c5]) :
  w.cell? ⟨U,i*6,none⟩=some c0 /\ w.cell? ⟨U,i*6+1,none⟩=some c1 /\ w.cell? ⟨U,i*6+2,none⟩=some c2 /\ w.cell? ⟨U,i*6+3,none⟩=some c3 /\ w.cell? ⟨U,i*6+4,none⟩=some c4 /\ w.cell? ⟨U,i*6+5,none⟩=some c5:=by
 have key:∀ j u,[c0,c1,c2,c3,c4,c5][j]? = some u->w.cell? ⟨U,i*6+j,none⟩=some u:=fun j u hj=>by
  have hj6:j < 6:=by
   have:=(List.getElem?_eq_some_iff.1 hj).1
   simpa using this
  rw [<-hc,List.getElem?_take,if_pos hj6,List.getElem?_drop] at hj
  have:=h.cells (g:=U) rfl (i*6+j) u hj
  rw [add_at,Nat.zero_add] at this
  exact this
 exact ⟨key 0 _ rfl,key 1 _ rfl,key 2 _ rfl,key 3 _ rfl,key 4 _ rfl,key 5 _ rfl⟩
theorem fn_calls {P:Program} {W:World} {T:Tab} (hT:∀ p∈T,∃ ty fr,W.heap[p.1]? = some (.cells p.2 ty fr)) {f:FuncId} {fd:Func} {s:Sig} {fn:s.Fn} {al:List Arg} {y:s.out.D} (hS:SoundFn P T f s fn) (hps:s.ps=al.map Arg.par) (hf:P.funcs[f]? = some fd) (hok:∀ a∈al,a.ok W)
  (happ:appF ((parsT s.ps).map LT.ty) fn.f (al.flatMap fun a=>a.ls.map datOf)=some y) :
  Calls P f ⟨al.map Arg.v⟩ W fun e W'=>∃ us g' st',e=.returned (retV us) /\ us.length=s.rs.length /\ exitSt s y=some st' /\ Below W.heap.size W W' /\ ∀ i,RelP (F00 W fd.ntmps) g' W' st'.O (fun i=>us.getD i undef) (us.getD i undef) (st'.φ i):=by
 obtain ⟨ps,rs⟩:=s
 have hps:ps=al.map Arg.par:=hps
 subst hps
 obtain ⟨st,h1,h2⟩:=args_rel (rs:=rs) hok fd.ntmps
 refine (hS (F00 W fd.ntmps) (G00 W) st _ y _ W ⟨al.map Arg.v⟩ (tab_start hT) h1 happ h2 rfl (fun fd' h=>by rw [hf] at h;cases h;rfl) (by simp) (fun i=>by simp [Array.getD_eq_getD_getElem?,List.getD_eq_getElem?_getD])).mono fun e W' ⟨us,g',st',q1,q2,q3,q4,_⟩=>?_
 exact ⟨us,g',st',q1,q2,q3,⟨q4.fr.os,q4.fr.tape,q4.fr.output,q4.fr.size,fun k hk=>q4.fr.old k hk fun _ h=>h⟩,fun i=>q4.slots i⟩
theorem rInt {F:Fr} {g:Gh} {w:World} {O:Tok->Bool} {tmf:Nat->Value} {u:Value} {k:IntKind} {x:Int} (h:RelP F g w O tmf u (.w false [.d (.int k) x])):u=.int k x /\ (Lit.int k x).wf=true:=by
 obtain ⟨h1,h2⟩:=rel_leaf.1 h
 exact ⟨by injection h1,h2⟩
theorem rBool {F:Fr} {g:Gh} {w:World} {O:Tok->Bool} {tmf:Nat->Value} {u:Value} {x:Bool} (h:RelP F g w O tmf u (.w false [.d .bool x])):u=.bool x:=by
 have h1:=rel_leaf.1 h
 have h1:[u]=[.bool x]:=h1
 injection h1
end Go.Proofs.YtgfmfgombmpodaaGreatDoor
namespace Go.Proofs.YtgfmfgombmpodaaGreatDoor
open Go.RowKit Pv
set_option linter.unusedVariables false
theorem RdAt.roles {lo:Nat} {w:World} {R M:Nat} {v:Value} {role role':Nat->Role} {x:RSt} (h:RdAt lo w R M v role x) (hk:∀ b,role b≠.no->role' b=role b) (hl:∀ b,role' b≠.no->lo<=b /\ b < w.heap.size):RdAt lo w R M v role' x:=by
 obtain ⟨xs,u1,u2,u3⟩:=h.hU
 refine ⟨h.hR,(hk R (by rw [h.rR];intro e;cases e)).trans h.rR,h.hM,(hk M (by rw [h.rM];intro e;cases e)).trans h.rM,⟨xs,u1,fun b hb=>(hk b (by rw [u2 b hb];intro e;cases e)).trans (u2 b hb),fun i u hu=>(u3 i u hu).keep fun b hb=>⟨hk b ?_,rfl⟩⟩,hl,h.wf⟩
 rcases hb with hb | hb <;> (rw [hb];intro e;cases e)
open Classical in
noncomputable def roleOf (role:Nat->Role) (v:Value) (ro:Role):Nat->Role:=fun b=>if v.ownBlock=some b then ro else role b
theorem roleOf_self {role:Nat->Role} {v:Value} {ro:Role} {b:Nat} (h:v.ownBlock=some b):roleOf role v ro b=ro:=by
 unfold roleOf
 rw [if_pos h]
theorem roleOf_other {role:Nat->Role} {v:Value} {ro:Role} {b:Nat} (h:v.ownBlock≠some b):roleOf role v ro b=role b:=by
 unfold roleOf
 rw [if_neg h]
theorem take6_app {xs news:List Value} {n i:Nat} (hx:xs.length=n*6) (hi:i < n):((xs++news).drop (i*6)).take 6=(xs.drop (i*6)).take 6:=by
 rw [List.drop_append_of_le_length (by omega),List.take_append_of_le_length (by rw [List.length_drop];omega)]
theorem set_heap {w:World} {b o:Nat} {u:Value} {cur:Array Value} {T:TypeId} (h:w.heap[b]? = some (.cells cur T (0,0))):(w.setCell ⟨b,o,none⟩ u).heap[b]? = some (.cells (cur.setIfInBounds o u) T (0,0)):=by
 rw [setCell_heap,if_pos rfl,h]
 rfl
theorem push_user {lo:Nat} {w w1:World} {R M:Nat} {v v':Value} {role:Nat->Role} {x:RSt} (h:RdAt lo w R M v role x) {nu:UserD} {news xs:List Value} (hn6:news.length=6) (hnew:UserAt lo w role x.us.length nu news) (hg:w.grownBy w1 v.ownBlock)
    (u1:w.ownsRow lo 63 6 v x.us.length xs) (u2:∀ b,v.ownBlock=some b->role b=.usr) (u3:∀ i u,x.us[i]? = some u->UserAt lo w role i u ((xs.drop (i*6)).take 6))
    (h':w1.ownsRow lo 63 6 v' (x.us.length+1) (xs++news)) (hat:v'.ownBlock=v.ownBlock \/ v'.ownBlock=some w.heap.size) (hlo:lo<=w.heap.size) :
    ∃ role',RdAt lo (w1.setCell ⟨R,7,none⟩ v') R M v' role' { x with us:=x.us++[nu] }:=by
  have hRlt:=h.lt R (by rw [h.rR];intro e;cases e)
  have hMlt:=h.lt M (by rw [h.rM];intro e;cases e)
  have hvR:v'.ownBlock≠some R:=fun e=>by
    rcases hat with h1 | h1
    · have:=u2 R (h1.symm.trans e)
      rw [h.rR] at this
      cases this
    · rw [h1] at e
      injection e with e
      omega
  have hvR0:v.ownBlock≠some R:=fun e=>by
    have:=u2 R e
    rw [h.rR] at this
    cases this
  have hRM:R≠M:=fun e=>by
    have:=h.rM
    rw [<-e,h.rR] at this
    cases this
  have stay:∀ b,b < w.heap.size->v.ownBlock≠some b->b≠R->(w1.setCell ⟨R,7,none⟩ v').heap[b]? = w.heap[b]?:=fun b hb hv hR=>by
    rw [setCell_heap,if_neg (by show b≠R;exact hR)]
    exact hg.block b hb fun e=>hv e.symm
  have hroles:∀ b,role b≠.no->role b≠.usr->roleOf role v' .usr b=role b:=fun b hb hne=>by
    refine roleOf_other fun e=>?_
    rcases hat with h1 | h1
    · exact hne (u2 b (h1.symm.trans e))
    · have:=h.lt b hb
      rw [h1] at e
      injection e with e
      omega
  have hkeep:∀ b,role b≠.no->role b≠.usr->role b≠.rdr->(w1.setCell ⟨R,7,none⟩ v').heap[b]? = w.heap[b]?:=fun b h1 h2 h3=>stay b (h.lt b h1).2 (fun e=>h2 (u2 b e)) (fun e=>h3 (by rw [e];exact h.rR))
  refine ⟨roleOf role v' .usr,?_,(hroles R (by rw [h.rR];intro e;cases e) (by rw [h.rR];intro e;cases e)).trans h.rR,h.hM.keep (stay M hMlt.2 (fun e=>?_) (fun e=>hRM e.symm)),(hroles M (by rw [h.rM];intro e;cases e) (by rw [h.rM];intro e;cases e)).trans h.rM,⟨xs++news,?_,fun b hb=>roleOf_self hb,fun i u hu=>?_⟩,fun b hb=>?_,h.wf⟩
  · have:=hg.block R hRlt.2 fun e=>hvR0 e.symm
    rw [set_heap (this.trans h.hR)]
    rfl
  · have:=u2 M e
    rw [h.rM] at this
    cases this
  · show (w1.setCell ⟨R,7,none⟩ v').ownsRow lo 63 6 v' (x.us++[nu]).length (xs++news)
    rw [List.length_append]
    exact owns_keep h' fun b hb=>by
      rw [setCell_heap,if_neg (by show b≠R;intro e;rw [e] at hb;exact hvR hb)]
  · have hu:(x.us++[nu])[i]? = some u:=hu
    have hk:∀ i' u' cs,UserAt lo w role i' u' cs->UserAt lo (w1.setCell ⟨R,7,none⟩ v') (roleOf role v' .usr) i' u' cs:=fun i' u' cs hua=>hua.keep fun b hb=>⟨hroles b ?_ ?_,hkeep b ?_ ?_ ?_⟩
    · rcases Nat.lt_or_ge i x.us.length with hi | hi
      · rw [List.getElem?_append_left hi] at hu
        rw [take6_app u1.1 hi]
        exact hk i u _ (u3 i u hu)
      · have hi2 : i = x.us.length := by
          have:=(List.getElem?_eq_some_iff.1 hu).1
          rw [List.length_append] at this
          have:i < x.us.length+1:=this
          omega
        subst hi2
        rw [List.getElem?_append_right (Nat.le_refl _),Nat.sub_self] at hu
        injection hu with hu
        rw [<-hu,show x.us.length*6=xs.length from u1.1.symm,List.drop_left,List.take_of_length_le (by omega)]
        exact hk _ _ _ hnew
    all_goals (rcases hb with hb | hb <;> (rw [hb];intro e;cases e))
  · have h1s : w.heap.size <= (w1.setCell ⟨R, 7, none⟩ v').heap.size := by
      have:=hg.size
      simpa [World.setCell] using this
    by_cases he:v'.ownBlock=some b
    · have:=h'.lt b he
      refine ⟨this.1,?_⟩
      have h3:=this.2
      simpa [World.setCell] using h3
    · rw [roleOf_other he] at hb
      have:=h.lt b hb
      exact ⟨this.1,by omega⟩
theorem put_rule {lo:Nat} {w w1:World} {R M U n cap i:Nat} {role:Nat->Role} {x:RSt} (h:RdAt lo w R M (.slice (some ⟨U,0,none⟩) n cap) role x) {u:UserD} {r:RuleD} {news rs xs:List Value} {nm:ByteArray} {vs vd vr vr':Value} (hu:x.us[i]? = some u) (hn7:news.length=7) (hnew:RepD w noC ruleT r news)
    (u1:w.ownsRow lo 63 6 (.slice (some ⟨U,0,none⟩) n cap) x.us.length xs) (u2:role U=.usr) (u3:∀ i u,x.us[i]? = some u->UserAt lo w role i u ((xs.drop (i*6)).take 6))
    (hcs:(xs.drop (i*6)).take 6=[.string nm,vs,vd,.int .i64 u.2.2.1,.complex .f64 u.2.2.2.1.1 u.2.2.2.1.2,vr]) (hnm:bytesL nm=u.1) (hnmz:nm.size<=maxLen) (hwf:(Lit.int .i64 u.2.2.1).wf=true)
    (hvs:RowAt lo w role .flat 5 (.int .u8) u.2.1.1 vs) (hvd:RowAt lo w role .flat 5 (.int .u8) u.2.1.2 vd) (r1:w.ownsRow lo 68 7 vr u.2.2.2.2.length rs) (r2:∀ b,vr.ownBlock=some b->role b=.row i) (r3:∀ (j:Nat) (y:ruleT.D),(show List ruleT.D from u.2.2.2.2)[j]? = some y->RepD w noC ruleT y ((rs.drop (j*7)).take 7))
    (hg:w.grownBy w1 vr.ownBlock) (h':w1.ownsRow lo 68 7 vr' (u.2.2.2.2.length+1) (rs++news)) (hat:vr'.ownBlock=vr.ownBlock \/ vr'.ownBlock=some w.heap.size) :
    ∃ role',RdAt lo (w1.setCell ⟨U,i*6+5,none⟩ vr') R M (.slice (some ⟨U,0,none⟩) n cap) role' { x with us:=x.us.set i (u.1,u.2.1,u.2.2.1,u.2.2.2.1,u.2.2.2.2++[r]) }:=by
  have hRlt:=h.lt R (by rw [h.rR];intro e;cases e)
  have hMlt:=h.lt M (by rw [h.rM];intro e;cases e)
  have hUlt:=h.lt U (by rw [u2];intro e;cases e)
  have hil:i < x.us.length:=(List.getElem?_eq_some_iff.1 hu).1
  have hvU:vr.ownBlock≠some U:=fun e=>by
    have:=r2 U e
    rw [u2] at this
    cases this
  have hRU:R≠U:=fun e=>by
    have:=h.rR
    rw [e,u2] at this
    cases this
  have hMU:M≠U:=fun e=>by
    have:=h.rM
    rw [e,u2] at this
    cases this
  have stay:∀ b,b < w.heap.size->vr.ownBlock≠some b->b≠U->(w1.setCell ⟨U,i*6+5,none⟩ vr').heap[b]? = w.heap[b]?:=fun b hb hv hR=>by
    rw [setCell_heap,if_neg (by show b≠U;exact hR)]
    exact hg.block b hb fun e=>hv e.symm
  have hroles:∀ b,role b≠.no->role b≠.row i->roleOf role vr' (.row i) b=role b:=fun b hb hne=>by
    refine roleOf_other fun e=>?_
    rcases hat with h1 | h1
    · exact hne (r2 b (h1.symm.trans e))
    · have:=h.lt b hb
      rw [h1] at e
      injection e with e
      omega
  have hrow:∀ b,role b=.row i->roleOf role vr' (.row i) b=.row i:=fun b hb=>by
    by_cases e:vr'.ownBlock=some b
    · exact roleOf_self e
    · rw [roleOf_other e];exact hb
  have hkeep:∀ b,role b≠.no->role b≠.usr->role b≠.row i->(w1.setCell ⟨U,i*6+5,none⟩ vr').heap[b]? = w.heap[b]?:=fun b h1 h2 h3=>stay b (h.lt b h1).2 (fun e=>h3 (r2 b e)) (fun e=>h2 (by rw [e];exact u2))
  have hUw:w1.ownsRow lo 63 6 (.slice (some ⟨U,0,none⟩) n cap) x.us.length xs:=owns_keep u1 fun b hb=>by
    have e:U=b:=by injection hb
    subst e
    exact hg.block U hUlt.2 fun e=>hvU e.symm
  have hn:n=x.us.length:=by
    rcases u1.2 with ⟨e,_⟩ | ⟨g,cap',cur,e,_⟩
    · cases e
    · injection e
  subst hn
  have hst:=(hUw.stored (i*6+5) vr').1
  refine ⟨roleOf role vr' (.row i),?_,(hroles R (by rw [h.rR];intro e;cases e) (by rw [h.rR];intro e;cases e)).trans h.rR,h.hM.keep (stay M hMlt.2 (fun e=>?_) hMU),(hroles M (by rw [h.rM];intro e;cases e) (by rw [h.rM];intro e;cases e)).trans h.rM,⟨xs.set (i*6+5) vr',?_,fun b hb=>?_,fun j y hy=>?_⟩,fun b hb=>?_,h.wf⟩
  · exact (stay R hRlt.2 (fun e=>by have:=r2 R e;rw [h.rR] at this;cases this) hRU).trans h.hR
  · have:=r2 M e
    rw [h.rM] at this
    cases this
  · show (w1.setCell ⟨U,i*6+5,none⟩ vr').ownsRow lo 63 6 _ (x.us.set i _).length _
    rw [List.length_set]
    exact hst
  · have e:U=b:=by injection hb
    subst e
    exact (hroles U (by rw [u2];intro e;cases e) (by rw [u2];intro e;cases e)).trans u2
  · have hy:(x.us.set i (u.1,u.2.1,u.2.2.1,u.2.2.2.1,u.2.2.2.2++[r]))[j]? = some y:=hy
    rw [List.getElem?_set] at hy
    have hxl:=u1.1
    by_cases hji:i=j
    · subst hji
      rw [if_pos rfl,if_pos hil] at hy
      injection hy with hy
      subst hy
      have hcut:((xs.set (i*6+5) vr').drop (i*6)).take 6=[.string nm,vs,vd,.int .i64 u.2.2.1,.complex .f64 u.2.2.2.1.1 u.2.2.2.1.2,vr']:=by
        rw [List.drop_set,if_neg (by omega),List.take_set,hcs,show i*6+5 - i*6=5 by omega]
        rfl
      refine ⟨nm,vs,vd,vr',hcut,hnm,hnmz,hwf,hvs.keep rfl (by intro e;cases e) fun b hb=>⟨(hroles b ?_ ?_).trans hb,hkeep b ?_ ?_ ?_⟩,hvd.keep rfl (by intro e;cases e) fun b hb=>⟨(hroles b ?_ ?_).trans hb,hkeep b ?_ ?_ ?_⟩,rs++news,?_,fun b hb=>roleOf_self hb,fun k z hz=>?_⟩
      all_goals first | (rw [hb];intro e;cases e) | skip
      · show (w1.setCell ⟨U,i*6+5,none⟩ vr').ownsRow lo 68 7 vr' (u.2.2.2.2++[r]).length (rs++news)
        rw [List.length_append]
        exact owns_keep h' fun b hb=>by
          rw [setCell_heap,if_neg (by
            show b≠U
            intro e
            rw [e] at hb
            rcases hat with h1 | h1
            · exact hvU (h1.symm.trans hb)
            · rw [h1] at hb
              injection hb with hb
              omega)]
      · have hz:(show List ruleT.D from u.2.2.2.2++[r])[k]? = some z:=hz
        have hrl:rs.length=(show List ruleT.D from u.2.2.2.2).length*7:=r1.1
        show RepD _ noC ruleT z (((rs++news).drop (k*7)).take 7)
        rcases Nat.lt_or_ge k (show List ruleT.D from u.2.2.2.2).length with hk | hk
        · have hz : (show List ruleT.D from u.2.2.2.2)[k]? = some z := by
            rw [<-hz]
            exact (List.getElem?_append_left hk).symm
          rw [List.drop_append_of_le_length (by omega),List.take_append_of_le_length (by rw [List.length_drop];omega)]
          exact repD_flat rfl (r3 k z hz)
        · have hk2 : k = (show List ruleT.D from u.2.2.2.2).length := by
            have h1:=(List.getElem?_eq_some_iff.1 hz).1
            have h2:k < (show List ruleT.D from u.2.2.2.2).length+1:=by
              have e:(show List ruleT.D from u.2.2.2.2++[r]).length=(show List ruleT.D from u.2.2.2.2).length+1:=List.length_append
              rw [<-e];exact h1
            omega
          subst hk2
          have hzr:r=z:=by
            have e:(show List ruleT.D from u.2.2.2.2++[r])[(show List ruleT.D from u.2.2.2.2).length]? = some r:=by
              show (u.2.2.2.2++[r])[u.2.2.2.2.length]? = some r
              rw [List.getElem?_append_right (Nat.le_refl _),Nat.sub_self];rfl
            rw [e] at hz
            injection hz
          rw [<-hrl,List.drop_left,List.take_of_length_le (by omega),<- hzr]
          exact repD_flat rfl hnew
    · rw [if_neg hji] at hy
      have hjl:j < x.us.length:=(List.getElem?_eq_some_iff.1 hy).1
      have hcut:((xs.set (i*6+5) vr').drop (j*6)).take 6=(xs.drop (j*6)).take 6:=by
        rw [List.drop_set]
        split
        · rfl
        · rw [List.take_set_of_le (by omega)]
      rw [hcut]
      refine (u3 j y hy).keep fun b hb=>⟨hroles b ?_ ?_,hkeep b ?_ ?_ ?_⟩
      all_goals (rcases hb with hb | hb <;> (rw [hb];intro e;first | (cases e;done) | (injection e with e;exact hji e.symm)))
  · have h1s : w.heap.size <= (w1.setCell ⟨U, i * 6 + 5, none⟩ vr').heap.size := by
      have:=hg.size
      simpa [World.setCell] using this
    by_cases he:vr'.ownBlock=some b
    · have:=h'.lt b he
      refine ⟨this.1,?_⟩
      have h3:=this.2
      simpa [World.setCell] using h3
    · rw [roleOf_other he] at hb
      have:=h.lt b hb
      exact ⟨this.1,by omega⟩
theorem step_append_own_at {P:Program} {ops:Array Oper} {o:Oper} {a:Act} {w:World} {K:Act->World->Prop} {Q:Exit->Act->World->Prop} {E:Prop}
  (hg:o.guard=none) (s x:Operand) (t:TypeId) (hop:o.op=Op.call { callee:=Callee.builtin Builtin.append,args:=#[s,x],argTypes:=#[t,t] })
  (base:Nat) (e:TypeId) (i:TypeInfo) (z:Value) (size bytes:Nat) (h1:P.underlying t=some (.slice e)) (h2:P.info? e=some i) (h3:i.zero=some z) (h4:i.size=size) (h5:i.bytes=bytes) (h6:z.cells.size=size) (h7:0 < size)
  (v:Value) (n:Nat) (xs:List Value) (hs:a.eval s=v) (hown:w.ownsRow base e size v n xs)
  (ad:Addr) (m c:Nat) (news:List Value) (hx:a.eval x=.slice (some ad) m c) (hn:news.length=m*size) (hc:∀ j u,news[j]? = some u->w.cell? (ad.add j)=some u) (h1c:∀ u∈news,u.oneCell'=true)
  (b1:n+m<=maxLen) (b2:(n+m)*bytes<=140737488355328) (hbase:base<=w.heap.size)
  (hK:∀ v' w',w'.ownsRow base e size v' (n+m) (xs++news)->w.grownBy w' v.ownBlock->(v'.ownBlock=v.ownBlock \/ v'.ownBlock=some w.heap.size)->K (a.put o.dst v') w') :
  if Region.wanted o (yielded ops a.tmps)=true then Oper.wp P o a w K Q else E:=by
 have hw:Region.wanted o (yielded ops a.tmps)=true:=by simp [Region.wanted,hg]
 rw [if_pos hw]
 obtain ⟨v',w',hrun,r1,r2,_,r3⟩:=run_append_own_at (P:=P) w base t o.type e i z size bytes h1 h2 h3 h4 h5 h6 h7 v n xs hown ad m c news hn hc h1c b1 b2 hbase
 unfold Oper.wp
 simp [execOp,hop,resolve,invoke,builtin,hs,hx,hrun,Result.andThen]
 exact hK v' w' r1 r2 r3
theorem cells_new (w:World) (T:TypeId) (cs:List Value):∀ j u,cs[j]? = some u->(w.alloc (.cells cs.toArray T)).cell? ((⟨w.heap.size,0,none⟩:Addr).add j)=some u:=fun j u hj=>by
 rw [add_at,Nat.zero_add,cell_at (heap_alloc_new w _)]
 simpa using hj
theorem RowAt.more {lo:Nat} {w:World} {role role':Nat->Role} {ro:Role} {E:TypeId} {e:Ty} {l:List e.D} {v:Value} (h:RowAt lo w role ro E e l v) (hk:∀ b,v.ownBlock=some b->role' b=role b):RowAt lo w role' ro E e l v:=by
 obtain ⟨xs,h1,h2,h3⟩:=h
 exact ⟨xs,h1,fun b hb=>(hk b hb).trans (h2 b hb),h3⟩
theorem new_user {lo:Nat} {w w2 w3 w4 w7:World} {R M:Nat} {v:Value} {role:Nat->Role} {x:RSt} (h:RdAt lo w7 R M v role x) (hrl:∀ b,role b≠.no->b < w.heap.size) (hlo:lo<=w.heap.size) (h2:w.heap.size<=w2.heap.size) {vs vd:Value} {sa di:List Int}
  (hs:∃ xs,w3.ownsRow w2.heap.size 5 1 vs sa.length xs /\ ∀ (i:Nat) (x:Int),sa[i]? = some x->RepD w3 noC (.int .u8) x ((xs.drop (i*1)).take 1)) (b37:Below w3.heap.size w3 w7) (h3:w.heap.size<=w3.heap.size)
  (hd:∃ xs,w4.ownsRow w3.heap.size 5 1 vd di.length xs /\ ∀ (i:Nat) (x:Int),di[i]? = some x->RepD w4 noC (.int .u8) x ((xs.drop (i*1)).take 1)) (b47:Below w4.heap.size w4 w7) :
  ∃ role1,RdAt lo w7 R M v role1 x /\ RowAt lo w7 role1 .flat 5 (.int .u8) sa vs /\ RowAt lo w7 role1 .flat 5 (.int .u8) di vd:=by
 obtain ⟨xs,s1,s2⟩:=hs
 obtain ⟨ys,d1,d2⟩:=hd
 have hsl:∀ b,vs.ownBlock=some b->w.heap.size<=b /\ b < w7.heap.size:=fun b hb=>by
  have:=s1.lt b hb
  have:=b37.size
  omega
 have hdl:∀ b,vd.ownBlock=some b->w.heap.size<=b /\ b < w7.heap.size:=fun b hb=>by
  have:=d1.lt b hb
  have:=b47.size
  omega
 have hold:∀ b,role b≠.no->roleOf (roleOf role vs .flat) vd .flat b=role b:=fun b hb=>by
  have hb':=hrl b hb
  rw [roleOf_other fun e=>by have:=hdl b e;omega,roleOf_other fun e=>by have:=hsl b e;omega]
 refine ⟨roleOf (roleOf role vs .flat) vd .flat,h.roles hold fun b hb=>?_,⟨xs,owns_keep (w:=w3) ⟨s1.1,s1.2.imp id fun ⟨g,cap,cur,q1,q2,q3⟩=>⟨g,cap,cur,q1,by omega,q3⟩⟩ fun b hb=>b37.block b (s1.lt b hb).2,fun b hb=>?_,fun i x hx=>repD_flat rfl (s2 i x hx)⟩,⟨ys,owns_keep (w:=w4) ⟨d1.1,d1.2.imp id fun ⟨g,cap,cur,q1,q2,q3⟩=>⟨g,cap,cur,q1,by omega,q3⟩⟩ fun b hb=>b47.block b (d1.lt b hb).2,fun b hb=>roleOf_self hb,fun i x hx=>repD_flat rfl (d2 i x hx)⟩⟩
 ·by_cases e1:vd.ownBlock=some b
  ·have:=hdl b e1
   omega
  ·rw [roleOf_other e1] at hb
   by_cases e2:vs.ownBlock=some b
   ·have:=hsl b e2
    omega
   ·rw [roleOf_other e2] at hb
    exact h.lt b hb
 ·by_cases e1:vd.ownBlock=some b
  ·exact roleOf_self e1
  ·rw [roleOf_other e1]
   exact roleOf_self hb
theorem userAt_new {lo:Nat} {w:World} {role:Nat->Role} {i:Nat} {nm:ByteArray} {vs vd:Value} {sa di:List Int} {n:Int} {p q:Nat} (hz:nm.size<=maxLen) (hn:(Lit.int .i64 n).wf=true) (hs:RowAt lo w role .flat 5 (.int .u8) sa vs) (hd:RowAt lo w role .flat 5 (.int .u8) di vd) :
  UserAt lo w role i (bytesL nm,(sa,di),n,(p,q),[]) [.string nm,vs,vd,.int .i64 n,.complex .f64 p q,.slice none 0 0]:=by
 have h0:RowAt lo w role (.row i) 68 ruleT ([]:List ruleT.D) (.slice none 0 0):=⟨[],World.ownsRow_nil w lo _ _,fun b hb=>(by cases hb),fun i x hx=>(by simp at hx)⟩
 exact ⟨nm,vs,vd,.slice none 0 0,rfl,rfl,hz,hn,hs,hd,h0⟩
theorem keep_R {lo:Nat} {w w0 w1:World} {R M:Nat} {v:Value} {role:Nat->Role} {x:RSt} (h:RdAt lo w R M v role x) (u2:∀ b,v.ownBlock=some b->role b=.usr) (hg:w0.grownBy w1 v.ownBlock) (h0:∀ b,b < w.heap.size->w0.heap[b]? = w.heap[b]?) (hs:w.heap.size<=w0.heap.size) :
  w1.cell? ⟨R,7,none⟩=some v /\ w1.frozen? ⟨R,7,none⟩=false:=by
 have hR:=h.lt R (by rw [h.rR];intro e;cases e)
 have h1:w1.heap[R]? = some _:=((hg.block R (by omega) fun e=>by
  have:=u2 R e.symm
  rw [h.rR] at this
  cases this).trans (h0 R hR.2)).trans h.hR
 obtain ⟨_,_,_,_,_,_,_,c7,_,fz⟩:=cells9 h1
 exact ⟨c7,fz 7⟩
theorem own_slice {lo:Nat} {w:World} {E:TypeId} {s n:Nat} {v:Value} {xs:List Value} (h:w.ownsRow lo E s v n xs):∃ a c,v=.slice a n c:=by
 rcases h.2 with ⟨rfl,rfl⟩ | ⟨g,cap,cur,rfl,_⟩
 ·exact ⟨_,_,rfl⟩
 ·exact ⟨_,_,rfl⟩
def RdPost (lo:Nat) (R M:Nat) (x':RSt) (e':Int) (e:Ending) (w w':World):Prop:=e=.returned (.int .i64 e') /\ Below lo w w' /\ (e'=0 -> ∃ v' role',RdAt lo w' R M v' role' x')
theorem user_end {lo:Nat} {w w7 W0 wz w':World} {R M:Nat} {v v':Value} {role1:Nat->Role} {x:RSt} {xs:List Value} {nm:ByteArray} {vs vd:Value} {sa di:List Int} {n:Int} {p q m:Nat} (hm:x.us.length=m) (hlo:lo<=w.heap.size) (hb7:Below w.heap.size w w7) (h:RdAt lo w7 R M v role1 x)
  (u1:w7.ownsRow lo 63 6 v m xs) (u2:∀ b,v.ownBlock=some b->role1 b=.usr) (u3:∀ i u,x.us[i]? = some u->UserAt lo w7 role1 i u ((xs.drop (i*6)).take 6)) (hrs:RowAt lo w7 role1 .flat 5 (.int .u8) sa vs) (hrd:RowAt lo w7 role1 .flat 5 (.int .u8) di vd)
  (hz:nm.size<=maxLen) (hn:(Lit.int .i64 n).wf=true) (hg:W0.grownBy wz v.ownBlock) (hown:wz.ownsRow lo 63 6 v' (m+1) (xs++[.string nm,vs,vd,.int .i64 n,.complex .f64 p q,.slice none 0 0])) (hat:v'.ownBlock=v.ownBlock \/ v'.ownBlock=some W0.heap.size)
  (hW:∀ b,b < w7.heap.size->W0.heap[b]? = w7.heap[b]?) (hWs:w7.heap.size<=W0.heap.size) (hWq:W0.os=w7.os /\ W0.tape=w7.tape /\ W0.output=w7.output) (he:w'.heap=(wz.setCell ⟨R,7,none⟩ v').heap) (hq:w'.os=wz.os /\ w'.tape=wz.tape /\ w'.output=wz.output) :
  RdPost lo R M { x with us:=x.us++[(bytesL nm,(sa,di),n,(p,q),[])] } 0 (.returned (.int .i64 0)) w w':=by
 subst hm
 have hk:∀ b,role1 b≠.no->W0.heap[b]? = w7.heap[b]?:=fun b hb=>hW b (h.lt b hb).2
 have hk0:∀ b,role1 b=.flat->role1 b=.flat /\ W0.heap[b]? = w7.heap[b]?:=fun b hb=>⟨hb,hk b (by rw [hb];intro e;cases e)⟩
 have hRlt:=h.lt R (by rw [h.rR];intro e;cases e)
 obtain ⟨role',hr⟩:=push_user (h.keep hk hWs) (nu:=(bytesL nm,(sa,di),n,(p,q),[])) (news:=[.string nm,vs,vd,.int .i64 n,.complex .f64 p q,.slice none 0 0]) rfl (userAt_new hz hn (hrs.keep rfl (by intro e;cases e) hk0) (hrd.keep rfl (by intro e;cases e) hk0)) hg (owns_keep u1 fun b hb=>hk b (by rw [u2 b hb];intro e;cases e)) u2
  (fun i u hu=>(u3 i u hu).keep fun b hb=>⟨rfl,hk b (by rcases hb with hb | hb <;> (rw [hb];intro e;cases e))⟩) hown hat (by have:=hb7.size;omega)
 refine ⟨rfl,⟨hq.1.trans (hg.os.trans (hWq.1.trans hb7.os)),hq.2.1.trans (hg.tape.trans (hWq.2.1.trans hb7.tape)),hq.2.2.trans (hg.output.trans (hWq.2.2.trans hb7.output)),?_,fun b hb=>?_⟩,fun _=>⟨v',role',hr.keep (fun b _=>by rw [he]) (by rw [he];exact Nat.le_refl _)⟩⟩
 ·rw [he]
  have h1:=hb7.size
  have h2:=hg.size
  have h3:(wz.setCell ⟨R,7,none⟩ v').heap.size=wz.heap.size:=by simp [World.setCell]
  omega
 ·have h1:=hb7.size
  rw [he,setCell_heap,if_neg (by show b≠R;omega),hg.block b (by omega) fun e=>?_,hW b (by omega),hb7.block b (by omega)]
  have:=(h.lt b (by rw [u2 b e.symm];intro e;cases e)).1
  omega
end Go.Proofs.YtgfmfgombmpodaaGreatDoor
namespace Go.Proofs
open Go.Shelf Go.RowKit Go.Lib Go.Sort
def Tryz.laysM171_ren:Go.Shelf.Ren:=⟨fun | 171=>67 | 243=>108 | 246=>144 | 283=>179 | 284=>180 | 285=>181 | 286=>182 | 129=>208 | 317=>207 | 318=>209 | 319=>210 | 320=>211 | 337=>235 | 338=>236 | n=>n,fun | 3=>3 | 9=>9 | 2=>2 | 4=>4 | 171=>241 | 0=>0 | 53=>218 | 37=>32 | 5=>5 | 173=>244 | 212=>268 | 51=>212 | 20=>20 | 213=>269 | 46=>105 | 232=>297 | 233=>298 | n=>n,fun | 17=>0 | 18=>6 | 19=>7 | n=>n⟩
theorem Tryz.laysM171:Go.Proofs.LaysM.n171 Tryz.prog Tryz.laysM171_ren:={
 mixed:=by kernel_rfl
 f129:=Tryz.func208.trans (congrArg some (by kernel_rfl))
 f171:=Tryz.func67.trans (congrArg some (by kernel_rfl))
 f243:=Tryz.func108.trans (congrArg some (by kernel_rfl))
 f246:=Tryz.func144.trans (congrArg some (by kernel_rfl))
 f283:=Tryz.func179.trans (congrArg some (by kernel_rfl))
 f284:=Tryz.func180.trans (congrArg some (by kernel_rfl))
 f285:=Tryz.func181.trans (congrArg some (by kernel_rfl))
 f286:=Tryz.func182.trans (congrArg some (by kernel_rfl))
 f317:=Tryz.func207.trans (congrArg some (by kernel_rfl))
 f318:=Tryz.func209.trans (congrArg some (by kernel_rfl))
 f319:=Tryz.func210.trans (congrArg some (by kernel_rfl))
 f320:=Tryz.func211.trans (congrArg some (by kernel_rfl))
 f337:=Tryz.func235.trans (congrArg some (by kernel_rfl))
 f338:=Tryz.func236.trans (congrArg some (by kernel_rfl))
 t0:=Tryz.underlying0
 a0:=Tryz.isAgg0
 z0:=Tryz.sizeOf0
 v0:=Tryz.zeroValue0
 t2:=Tryz.underlying2
 a2:=Tryz.isAgg2
 z2:=Tryz.sizeOf2
 v2:=Tryz.zeroValue2
 t3:=Tryz.underlying3
 a3:=Tryz.isAgg3
 z3:=Tryz.sizeOf3
 v3:=Tryz.zeroValue3
 t4:=Tryz.underlying4
 a4:=Tryz.isAgg4
 z4:=Tryz.sizeOf4
 v4:=Tryz.zeroValue4
 t5:=Tryz.underlying5
 a5:=Tryz.isAgg5
 z5:=Tryz.sizeOf5
 v5:=Tryz.zeroValue5
 t9:=Tryz.underlying9
 a9:=Tryz.isAgg9
 z9:=Tryz.sizeOf9
 v9:=Tryz.zeroValue9
 t20:=Tryz.underlying20
 a20:=Tryz.isAgg20
 z20:=Tryz.sizeOf20
 v20:=Tryz.zeroValue20
 t37:=Tryz.underlying32
 a37:=Tryz.isAgg32
 z37:=Tryz.sizeOf32
 v37:=Tryz.zeroValue32
 t46:=Tryz.underlying105
 a46:=Tryz.isAgg105
 z46:=Tryz.sizeOf105
 v46:=Tryz.zeroValue105
 t51:=Tryz.underlying212
 a51:=Tryz.isAgg212
 z51:=Tryz.sizeOf212
 v51:=Tryz.zeroValue212
 t53:=Tryz.underlying218
 a53:=Tryz.isAgg218
 z53:=Tryz.sizeOf218
 v53:=Tryz.zeroValue218
 t171:=Tryz.underlying241
 a171:=Tryz.isAgg241
 z171:=Tryz.sizeOf241
 v171:=Tryz.zeroValue241
 t173:=Tryz.underlying244
 a173:=Tryz.isAgg244
 z173:=Tryz.sizeOf244
 v173:=Tryz.zeroValue244
 t212:=Tryz.underlying268
 a212:=Tryz.isAgg268
 z212:=Tryz.sizeOf268
 v212:=Tryz.zeroValue268
 t213:=Tryz.underlying269
 a213:=Tryz.isAgg269
 z213:=Tryz.sizeOf269
 t232:=Tryz.underlying297
 a232:=Tryz.isAgg297
 z232:=Tryz.sizeOf297
 v232:=Tryz.zeroValue297
 t233:=Tryz.underlying298
 a233:=Tryz.isAgg298
 z233:=Tryz.sizeOf298
 v233:=Tryz.zeroValue298
 g17:=by kernel_rfl
 g18:=by kernel_rfl
 g19:=by kernel_rfl
 i0:=by kernel_rfl
 i2:=by kernel_rfl
 i3:=by kernel_rfl
 i4:=by kernel_rfl
 i5:=by kernel_rfl
 i9:=by kernel_rfl
 i20:=by kernel_rfl
 i37:=by kernel_rfl
 i46:=by kernel_rfl
 i51:=by kernel_rfl
 i53:=by kernel_rfl
 i171:=by kernel_rfl
 i173:=by kernel_rfl
 i212:=by kernel_rfl
 i232:=by kernel_rfl
 i233:=by kernel_rfl
 m17:=by kernel_rfl
 m18:=by kernel_rfl
 m19:=by kernel_rfl }
theorem Tryz.strconv_Itoa (n : Int) (h0 : -9223372036854775808 <= n) (h1 : n <= 9223372036854775807) (w : World) (htab : Lib.TabIs Tryz.prog w "internal/strconv.uint64pow10" .u64 Lib.pow10Tab) :
  Calls Tryz.prog 67 #[.int .i64 n] w fun e w'=>e=.returned (.string ⟨(Lib.itoa n).toArray⟩) /\ ∃ k os,w'=grow (w.drewN k) os:=Any.strconv_Itoa Tryz.laysM171 n h0 h1 w htab
end Go.Proofs
namespace Go.Proofs.YtgfmfgombmpodaaGreatDoor
open Go.RowKit Pv
set_option linter.unusedVariables false
def itoaI (n:Int):List Int:=(Lib.itoa n).map byteI
def tab_pow10:Nat×Array Value:=tabOf 0 .u64 Lib.pow10Tab
def F_strconv_Itoa_sig:Sig:=⟨[.v false [.d (.int .i64)]],[(false,[.d .str])]⟩
def F_strconv_Itoa (n:Int):Option (List Int):=some (itoaI n)
theorem wf_i64 {n:Int} (h:(Lit.int .i64 n).wf=true) : -9223372036854775808<=n /\ n<=9223372036854775807:=by
 simp [Lit.wf,IntKind.min,IntKind.max,IntKind.signed,IntKind.bits] at h
 omega
theorem F_strconv_Itoa_sound {T:Tab} (h_pow10:tab_pow10∈T):SoundFn Tryz.prog T 67 F_strconv_Itoa_sig ⟨F_strconv_Itoa⟩:=by
 refine sound_d rfl fun F g O xs ls y tmf w args hT hls happ hsz hr=>?_
 obtain ⟨(n:Int),xs',rfl,h2⟩:=appF_inv_c (ts:=[]) happ
 obtain ⟨rfl,h3⟩:=appF_inv_n h2
 have hls':some [Leaf.d (.int .i64) n]=some ls:=hls
 injection hls' with hls'
 subst hls'
 obtain ⟨e0,e1⟩:=rel_int (hr 0)
 have ha:args = #[.int .i64 n]:=by
  obtain ⟨al⟩:=args
  match al,hsz with
  | [v],_=>
   have h:v=.int .i64 n:=e0
   rw [h]
 subst ha
 have h3:itoaI n=y:=by
  have h3:some (itoaI n)=some y:=h3
  injection h3
 have hn:=wf_i64 e1
 refine (Tryz.strconv_Itoa n hn.1 hn.2 w (tabIs_now hT h_pow10 (by kernel_rfl))).mono ?_
 rintro e w' ⟨he,k,os,rfl⟩
 refine ⟨[.string ⟨(Lib.itoa n).toArray⟩],[.d .str y],he,rfl,rfl,below_grow _ _ _,fun i hi=>?_⟩
 match i,hi with
 | 0,_=>
  refine ⟨[.string ⟨(Lib.itoa n).toArray⟩],⟨[.string ⟨(Lib.itoa n).toArray⟩],[],rfl,⟨_,rfl,?_,?_⟩,rfl⟩,rfl⟩
  ·rw [<-h3]
   show (Lib.itoa n).toArray.toList.map byteI=_
   rw [List.toList_toArray]
   rfl
  ·show (Lib.itoa n).toArray.size<=maxLen
   have:=Lib.itoa_length_le n hn.1 hn.2
   rw [List.size_toArray]
   have hm:maxLen=9223372036854775807:=rfl
   omega
def lowc (c:Int):Int:=bits BinOp.or IntKind.u8 c 32
theorem lowc_f:∀ q:Fin 256,0<=bits BinOp.or IntKind.u8 (q.val:Int) 32 /\ bits BinOp.or IntKind.u8 (q.val:Int) 32 < 256:=by decide +kernel
theorem lowc_in {c:Int} (h0:0<=c) (h1:c < 256):0<=lowc c /\ lowc c < 256:=by
 have:=lowc_f ⟨c.toNat,by omega⟩
 simp only [show ((c.toNat:Nat):Int)=c by omega] at this
 exact this
def hexv (c:Int):Option Int:=if 48<=c /\ c<=57 then some (c - 48) else if 97<=lowc c /\ lowc c<=102 then some (lowc c - 87) else none
theorem hexv_in {c x:Int} (h:hexv c=some x):0<=x /\ x < 16:=by
 unfold hexv at h
 split at h
 ·injection h with h;omega
 ·split at h
  ·injection h with h;omega
  ·cases h
set_option maxHeartbeats 4000000 in
set_option maxRecDepth 1000000 in
theorem lower_walk (c:Int) (w:World):Calls Tryz.prog 228 #[.int .u8 c] w fun e w'=>e=.returned (.int .u8 (lowc c)) /\ w'=w:=by
 go_enter Tryz.func228,Tryz.ntmps228
 go_wp2
 go_ret
 exact ⟨rfl,rfl⟩
def hexN (l:List Int):Nat->Option Int
 | 0=>some 0
 | k+1=>match hexN l k,hexv (l.getD k 0) with | some n,some d=>some (n*16+d) | _,_=>none
theorem hexN_in (l:List Int):∀ {k n},hexN l k=some n->0<=n /\ n < 16 ^ k
 | 0,n,h=>by injection h with h;subst h;decide
 | k+1,n,h=>by
  unfold hexN at h
  split at h
  ·rename_i n' d h1 h2
   injection h with h
   have:=hexN_in l h1
   have:=hexv_in h2
   rw [Int.pow_succ]
   omega
  ·cases h
theorem hexN_none (l:List Int):∀ {k j},k<=j->hexN l k=none->hexN l j=none
  | k, 0, hk, h => by obtain rfl : k = 0 := by omega
                      exact h
  | k,j+1,hk,h=>by
    rcases Nat.lt_or_ge j k with h1 | h1
    · obtain rfl:k=j+1:=by omega
      exact h
    · unfold hexN
      rw [hexN_none l h1 h]
set_option maxHeartbeats 8000000 in
set_option maxRecDepth 1000000 in
theorem pui_walk (s:ByteArray) (hs:s.size=2) (w:World):Calls Tryz.prog 199 #[.string s,.int .i64 16,.int .i64 8] w fun e w'=>(match hexN (bytesL s) 2 with
  | some n=>e=.returned (.tuple #[.int .u64 n,.nilIface])
  | none=>e=.returned (.tuple #[.int .u64 0,.iface 278 (.int .i64 2)])) /\ Below w.heap.size w w':=by
 have hemp:s.toList.isEmpty=false:=by
  rw [Bool.eq_false_iff]
  intro h
  have h1:=List.isEmpty_iff.1 h
  rw [toList_data] at h1
  have h3:s.data.toList.length=s.size:=by simp
  rw [h1,hs] at h3
  cases h3
 have hcv:=Lib.run_convert_string_bytes (P:=Tryz.prog) w 9 32 5 s (u:=.string) Tryz.underlying9 Tryz.underlying32 Tryz.underlying5
 have hB:∀ j,j < s.size->(Lib.bytesWorld w 5 s).cell? ⟨w.heap.size,j,none⟩=some (.int .u8 ((bytesL s).getD j 0)):=fun j hj=>by
  rw [Lib.bytesWorld_cell w 5 s j hj]
  have hj2:j < s.data.toList.length:=by simpa using hj
  have e1:(bytesL s).getD j 0=byteI (s.data.toList.getD j 0):=by
   show (s.data.toList.map byteI).getD j 0=_
   rw [List.getD_eq_getElem?_getD,List.getElem?_map,List.getElem?_eq_getElem hj2,List.getD_eq_getElem?_getD,List.getElem?_eq_getElem hj2]
   rfl
  rw [e1]
  rfl
 have hbel:=below_bytes w 5 s
 have hbyte:∀ j,j < s.size->0<=(bytesL s).getD j 0 /\ (bytesL s).getD j 0 < 256:=fun j hj=>by
  have hj2:j < (bytesL s).length:=by rw [bytes_len];exact hj
  rw [List.getD_eq_getElem?_getD,List.getElem?_eq_getElem hj2,Option.getD_some]
  have:(bytesL s)[j]∈s.data.toList.map byteI:=List.getElem_mem hj2
  obtain ⟨b,_,hb⟩:=List.mem_map.1 this
  rw [<-hb]
  unfold byteI
  have:=b.toNat_lt
  omega
 obtain ⟨W1,hW1⟩:∃ W1,W1=Lib.bytesWorld w 5 s:=⟨_,rfl⟩
 rw [<-hW1] at hcv hB hbel
 clear hW1
 obtain ⟨bs,hL⟩:∃ bs,bs=bytesL s:=⟨_,rfl⟩
 rw [<-hL] at hB hbyte ⊢
 clear hL
 obtain ⟨Z,hZ⟩:∃ Z:Ending->Prop,Z=fun e=>(match hexN bs 2 with
  | some n=>e=.returned (.tuple #[.int .u64 n,.nilIface])
  | none=>e=.returned (.tuple #[.int .u64 0,.iface 278 (.int .i64 2)])):=⟨_,rfl⟩
 have HZ:Aside (Z=fun e=>(match hexN bs 2 with
  | some n=>e=.returned (.tuple #[.int .u64 n,.nilIface])
  | none=>e=.returned (.tuple #[.int .u64 0,.iface 278 (.int .i64 2)]))):=hZ
 show Calls Tryz.prog 199 #[.string s,.int .i64 16,.int .i64 8] w fun e w'=>(fun e=>(match hexN bs 2 with
  | some n=>e=.returned (.tuple #[.int .u64 n,.nilIface])
  | none=>e=.returned (.tuple #[.int .u64 0,.iface 278 (.int .i64 2)]))) e /\ Below w.heap.size w w'
 rw [<-hZ]
 clear hZ
 have hmv:IntKind.u64.wrap (IntKind.u64.wrap 256 - 1)=255:=by decide
 go_enter Tryz.func199,Tryz.ntmps199
 go_wp2
 go_loop [12,13,101] (fun vu vn vi=>∃ (k:Nat) (a:Int),vu=.bool false /\ vn=.int .u64 a /\ vi=.int .i64 k /\ k<=2 /\ 0<=a /\ a < 256 /\ Aside (hexN bs k=some a /\ a < 16 ^ k))
  (fun _ _ vi=>2 - (intOf vi).toNat)
 case atStart=>exact ⟨0,0,rfl,rfl,rfl,by omega,by omega,by omega,rfl,by decide⟩
 case round=>
  obtain ⟨k,a,rfl,rfl,rfl,hk,ha0,ha1,HA⟩:=hrel
  by_cases hkn:k < 2
  ·have hc:=hB k (by omega)
   obtain ⟨hc0,hc1⟩:=hbyte k (by omega)
   have hsuc:Aside (hexN bs (k+1)=(match hexN bs k,hexv (bs.getD k 0) with | some n,some d=>some (n*16+d) | _,_=>none)):=rfl
   generalize bs.getD k 0=c at hc hc0 hc1 hsuc
   clear hB hbyte
   have ha16:a < 16:=by
    have:=HA.out.2
    rcases Nat.lt_or_ge k 1 with h | h
    ·obtain rfl:k=0:=by omega
     simpa using Int.lt_of_lt_of_le this (by decide)
    ·obtain rfl:k=1:=by omega
     simpa using this
   have hnone:hexv c=none->Z (.returned (.tuple #[.int .u64 0,.iface 278 (.int .i64 2)])):=fun hq=>by
    have h1:=hsuc.out
    rw [hq,HA.out.1] at h1
    rw [HZ.out,hexN_none bs (show k+1<=2 by omega) h1]
   have HN:Aside (hexv c=none->Z (.returned (.tuple #[.int .u64 0,.iface 278 (.int .i64 2)]))):=hnone
   clear hnone
   obtain ⟨hl0,hl1⟩:=lowc_in hc0 hc1
   obtain ⟨lc,hlc⟩:∃ lc,lc=lowc c:=⟨_,rfl⟩
   have hlw:=fun w=>lower_walk c w
   rw [<-hlc] at hlw hl0 hl1
   have HL:Aside (lc=lowc c):=hlc
   clear hlc
   have next:∀ d:Int,0<=d->d < 16->hexv c=some d->Aside (hexN bs (k+1)=some (a*16+d) /\ a*16+d < 16 ^ (k+1)):=fun d h0 h1 hq=>by
    have h2:=hsuc.out
    rw [hq,HA.out.1] at h2
    exact ⟨h2,(hexN_in bs h2).2⟩
   by_cases hd:48<=c /\ c<=57
   ·have HD:=next (c - 48) (by omega) (by omega) (by unfold hexv;rw [if_pos hd])
    obtain ⟨hd0,hd1⟩:=hd
    clear next HN
    have hne:¬ c=95:=by omega
    go_wp2
    refine ⟨⟨k+1,a*16+(c - 48),rfl,(by first | rfl | (congr 1;omega)),(by first | rfl | (congr 1;omega)),by omega,by omega,by omega,HD⟩,by simp [intOf];omega⟩
   ·by_cases hl:97<=lc /\ lc<=102
    ·have HD:=next (lc - 87) (by omega) (by omega) (by unfold hexv;rw [if_neg hd,<- HL.out,if_pos hl])
     obtain ⟨hl2,hl3⟩:=hl
     clear next HN
     by_cases h95:c=95
     ·exfalso
      have:=HL.out
      rw [h95] at this
      have h2:lowc 95=127:=by decide
      omega
     ·rcases Int.lt_or_le c 48 with h48 | h48
      ·clear hd
       go_wp2_with (go_at_call 228;refine (hlw _).mono ?_;rintro e w' ⟨rfl,rfl⟩)
       refine ⟨⟨k+1,a*16+(lc - 87),rfl,(by first | rfl | (congr 1;omega)),(by first | rfl | (congr 1;omega)),by omega,by omega,by omega,HD⟩,by simp [intOf];omega⟩
      ·have h57:57 < c:=by omega
       clear hd
       go_wp2_with (go_at_call 228;refine (hlw _).mono ?_;rintro e w' ⟨rfl,rfl⟩)
       refine ⟨⟨k+1,a*16+(lc - 87),rfl,(by first | rfl | (congr 1;omega)),(by first | rfl | (congr 1;omega)),by omega,by omega,by omega,HD⟩,by simp [intOf];omega⟩
    ·have HF:Z (.returned (.tuple #[.int .u64 0,.iface 278 (.int .i64 2)])):=HN.out (by unfold hexv;rw [if_neg hd,<- HL.out,if_neg hl])
     clear next HN
     by_cases h95:c=95
     ·subst h95
      go_wp2_with (go_at_call 228;refine (hlw _).mono ?_;rintro e w' ⟨rfl,rfl⟩)
      all_goals go_ret2
      all_goals exact ⟨HF,hbel⟩
     ·go_wp2_with (go_at_call 228;refine (hlw _).mono ?_;rintro e w' ⟨rfl,rfl⟩)
      all_goals go_ret2
      all_goals exact ⟨HF,hbel⟩
  ·obtain rfl:k=2:=by omega
   have hf:Z (.returned (.tuple #[.int .u64 a,.nilIface])):=by rw [HZ.out,HA.out.1]
   go_wp2
   go_ret2
   exact ⟨hf,hbel⟩
set_option maxHeartbeats 4000000 in
set_option maxRecDepth 1000000 in
theorem pux_walk (s:ByteArray) (hs:s.size=2) (ev:Value) (w:World) (hv:w.cell? ⟨4,0,none⟩=some ev) (hev:okErr ev):Calls Tryz.prog 170 #[.string s,.int .i64 16,.int .i64 8] w fun e w'=>(match hexN (bytesL s) 2 with
  | some n=>e=.returned (.tuple #[.int .u64 n,.nilIface])
  | none=>∃ t q,e=.returned (.tuple #[.int .u64 0,.iface t q])) /\ Below w.heap.size w w':=by
 have hi:=pui_walk s hs w
 have hlt:(⟨4,0,none⟩:Addr).block < w.heap.size:=cell_lt hv
 cases hq:hexN (bytesL s) 2 with
 | some n=>
  rw [hq] at hi
  go_enter Tryz.func170,Tryz.ntmps170
  go_wp2_with (go_at_call 199;refine hi.mono ?_;rintro e w' ⟨rfl,hb⟩)
  go_ret2
  exact ⟨rfl,hb⟩
 | none=>
  rw [hq] at hi
  have hq2:∀ (w:World) (t u:Value),True:=fun _ _ _=>trivial
  go_enter Tryz.func170,Tryz.ntmps170
  go_wp2_with (first | (go_at_call 199;refine hi.mono ?_;rintro e w' ⟨rfl,hb⟩) | (go_at_call 197;refine (Tryz.strconv_toError_syntax _ s 16 8 ev _ (by omega) ((hb.cell hlt).trans hv) hev).mono ?_;rintro e w2 ⟨N,rfl,_,_,hb2⟩))
  go_ret2
  exact ⟨⟨_,_,rfl⟩,hb.trans (hb2.mono hb.size)⟩
def F_strconv_ParseUint_sig:Sig:=⟨[.v false [.d .str],.v false [.d (.int .i64)],.v false [.d (.int .i64)]],[(false,[.d (.int .u64)]),(false,[.d .err])]⟩
def puxP (l:List Int):Int×Bool:=match hexN l 2 with
 | some n=>(n,false)
 | none=>(0,true)
def F_strconv_ParseUint (l:List Int) (b k:Int):Option (Int×Bool):=cond (Nat.beq l.length 2&&(decide (b=16)&&decide (k=8))) (some (puxP l)) none
theorem F_strconv_ParseUint_sound {T:Tab} (h_errs:has_errs T):SoundFn Tryz.prog T 170 F_strconv_ParseUint_sig ⟨F_strconv_ParseUint⟩:=by
  refine sound_d rfl fun F g O xs ls y tmf w args hT hls happ hsz hr=>?_
  obtain ⟨(l:List Int),xs',rfl,h2⟩:=appF_inv_c (ts:=[.int .i64,.int .i64]) happ
  obtain ⟨(b:Int),xs',rfl,h2⟩:=appF_inv_c (ts:=[.int .i64]) h2
  obtain ⟨(k:Int),xs',rfl,h2⟩:=appF_inv_c (ts:=[]) h2
  obtain ⟨rfl,h3⟩:=appF_inv_n h2
  have hls':some [Leaf.d .str l,Leaf.d (.int .i64) b,Leaf.d (.int .i64) k]=some ls:=hls
  injection hls' with hls'
  subst hls'
  obtain ⟨s,e0,e1,e2⟩:=rel_str (hr 0)
  obtain ⟨b0,_⟩:=rel_int (hr 1)
  obtain ⟨k0,_⟩:=rel_int (hr 2)
  rw [args_3 hsz,e0,b0,k0]
  have h3:cond (Nat.beq l.length 2&&(decide (b=16)&&decide (k=8))) (some (puxP l)) none=some y:=h3
  cases hb:(Nat.beq l.length 2&&(decide (b=16)&&decide (k=8))) with
  | false=>rw [hb] at h3;cases h3
  | true=>
    rw [hb] at h3
    have hy:puxP l=y:=by injection h3
    rw [Bool.and_eq_true,Bool.and_eq_true,decide_eq_true_eq,decide_eq_true_eq] at hb
    obtain ⟨hb1,rfl,rfl⟩:=hb
    have hs2:s.size=2:=by rw [bytes_size e1];exact Nat.eq_of_beq_eq_true hb1
    obtain ⟨v1,v2,hm1,hm2,ok1,ok2⟩:=h_errs
    refine (pux_walk s hs2 v1 w (err_cell hT hm1) ok1).mono ?_
    rintro e w' ⟨he,hbel⟩
    rw [e1] at he
    have fin : ∀ (n : Int) (er : Value) (b : Bool), y = (n, b) -> e = .returned (.tuple #[.int .u64 n, er]) -> (Lit.int .u64 n).wf = true -> ((b = false /\ er = .nilIface) \/ (b = true /\ ∃ t q, er = .iface t q)) ->
        ∃ us os,e=.returned (retV us) /\ us.length=F_strconv_ParseUint_sig.rs.length /\ mkLs (Tok.hd 0) F_strconv_ParseUint_sig.outs 0 (unpackD (F_strconv_ParseUint_sig.outs.map LT.ty) y)=some os /\ Below w.heap.size w w' /\
          ∀ i,i < F_strconv_ParseUint_sig.rs.length->RelP F ⟨g.C,fun _=>none,g.ρ,fun _ _=>[]⟩ w' (exitO F_strconv_ParseUint_sig) tmf (us.getD i undef) (resAt F_strconv_ParseUint_sig.rs os i):=fun n er b hy he hwf her=>by
      subst hy
      refine ⟨[.int .u64 n,er],[.d (.int .u64) n,.d .err b],he,rfl,rfl,hbel,fun i hi=>?_⟩
      match i,hi with
      | 0,_=>exact ⟨[.int .u64 n],⟨_,[],rfl,⟨rfl,hwf⟩,rfl⟩,rfl⟩
      | 1,_=>exact ⟨[er],⟨[er],[],rfl,⟨er,rfl,her⟩,rfl⟩,rfl⟩
    unfold puxP at hy
    cases hq:hexN l 2 with
    | some n=>
      rw [hq] at hy he
      have hn:=hexN_in l hq
      refine fin n .nilIface false hy.symm he (wfQ' hn.1 ?_) (.inl ⟨rfl,rfl⟩)
      have h16:(16:Int) ^ 2=256:=by decide
      omega
    | none=>
      rw [hq] at hy he
      obtain ⟨t,q,he⟩:=he
      exact fin 0 _ true hy.symm he (by decide) (.inr ⟨rfl,t,q,rfl⟩)
end Go.Proofs.YtgfmfgombmpodaaGreatDoor
namespace Go.Proofs
open Go.Shelf Go.RowKit Go.Lib Go.Sort
def Tryz.lays169_ren:Go.Shelf.Ren:=⟨fun | 169=>92 | n=>n,fun | 70=>153 | 9=>9 | 0=>0 | 72=>155 | 37=>32 | 127=>197 | 3=>3 | 5=>5 | n=>n,fun | n=>n⟩
theorem Tryz.lays169:Go.Proofs.Lays.n169 Tryz.prog Tryz.lays169_ren:={
 mixed:=by kernel_rfl
 f169:=Tryz.func92.trans (congrArg some (by kernel_rfl))
 t0:=Tryz.underlying0
 a0:=Tryz.isAgg0
 z0:=Tryz.sizeOf0
 v0:=Tryz.zeroValue0
 t3:=Tryz.underlying3
 a3:=Tryz.isAgg3
 z3:=Tryz.sizeOf3
 v3:=Tryz.zeroValue3
 t9:=Tryz.underlying9
 a9:=Tryz.isAgg9
 z9:=Tryz.sizeOf9
 v9:=Tryz.zeroValue9
 t37:=Tryz.underlying32
 a37:=Tryz.isAgg32
 z37:=Tryz.sizeOf32
 v37:=Tryz.zeroValue32
 t70:=Tryz.underlying153
 a70:=Tryz.isAgg153
 z70:=Tryz.sizeOf153
 v70:=Tryz.zeroValue153
 t72:=Tryz.underlying155
 a72:=Tryz.isAgg155
 z72:=Tryz.sizeOf155
 v72:=Tryz.zeroValue155
 t127:=Tryz.underlying197
 a127:=Tryz.isAgg197
 z127:=Tryz.sizeOf197
 v127:=Tryz.zeroValue197 }
theorem Tryz.Builder_Extra_169:Builder.Extra Tryz.prog Tryz.lays169_ren:={
 sizeBuilder:=by kernel_rfl
 liesBuilder:=by kernel_rfl
 t5:=Tryz.underlying5
 a5:=Tryz.isAgg5
 z5:=Tryz.sizeOf5
 v5:=Tryz.zeroValue5
 infoByte:=by kernel_rfl
 cellsByte:=by kernel_rfl
 sizeByte:=by kernel_rfl
 neB5:=by decide }
theorem Tryz.Builder_String_any_k (B b:Nat) (l:List UInt8) (w:World) (h:Lib.IsBuilderF 155 5 B b (Lib.byteCells l) w) (hBw:B<=w.heap.size) :
  Calls Tryz.prog 92 #[.pointer (some ⟨b,0,none⟩)] w fun e w'=>e=.returned (.string ⟨l.toArray⟩) /\ (Lib.IsBuilderF 155 5 B b (Lib.byteCells l) w' /\ Below B w w' /\ Lib.OthersKept 5 (some b) w w'):=Any.Builder_String_any_k Tryz.lays169 Tryz.Builder_Extra_169 B b l w h hBw
def Tryz.lays217_ren:Go.Shelf.Ren:=⟨fun | 217=>218 | 266=>237 | n=>n,fun | 9=>9 | 5=>5 | 3=>3 | n=>n,fun | n=>n⟩
theorem Tryz.lays217:Go.Proofs.Lays.n217 Tryz.prog Tryz.lays217_ren:={
 mixed:=by kernel_rfl
 f217:=Tryz.func218.trans (congrArg some (by kernel_rfl))
 f266:=Tryz.func237.trans (congrArg some (by kernel_rfl))
 t3:=Tryz.underlying3
 a3:=Tryz.isAgg3
 z3:=Tryz.sizeOf3
 v3:=Tryz.zeroValue3
 t5:=Tryz.underlying5
 a5:=Tryz.isAgg5
 z5:=Tryz.sizeOf5
 v5:=Tryz.zeroValue5
 t9:=Tryz.underlying9
 a9:=Tryz.isAgg9
 z9:=Tryz.sizeOf9
 v9:=Tryz.zeroValue9 }
theorem Tryz.stringslite_IndexByte (s:ByteArray) (c:Int) (w:World) :
  Calls Tryz.prog 218 #[.string s,.int .u8 c] w fun e w'=>e=.returned (.int .i64 (Lib.indexByte s.data.toList c.toNat.toUInt8)) /\ w'=w:=Any.stringslite_IndexByte Tryz.lays217 s c w
end Go.Proofs
namespace Go.Proofs.YtgfmfgombmpodaaGreatDoor
open Go.RowKit Go.Shelf
set_option linter.unusedVariables false
theorem szB:(Tryz.prog.info? 155).map (·.size)=some 2:=by kernel_rfl
theorem liB:liesAt Tryz.prog Tryz.prog.depth 155 (2 / Tryz.prog.cellsOf 155) 0 155 1=true:=by kernel_rfl
theorem infB:(Tryz.prog.info? 5).map (fun i=>(i.zero,i.size,i.bytes))=some (some (.int .u8 0),1,1):=by kernel_rfl
set_option maxHeartbeats 1000000 in
theorem cc_used (b:Nat) (w:World) (h0:w.cell? ⟨b,0,none⟩=some (.pointer (some ⟨b,0,none⟩))) :
  Calls Tryz.prog 129 #[.pointer (some ⟨b,0,none⟩)] w fun e w'=>e=.returned (.tuple #[]) /\ w'=w:=by
 obtain ⟨j,hj,_⟩:=Option.map_eq_some_iff.1 szB
 go_enter Tryz.func129,Tryz.ntmps129
 go_wp2
 rw [Lib.run_neq_ptr_same w _ Tryz.underlying153 hj]
 go_wp2
 go_end0
 exact ⟨rfl,rfl⟩
set_option maxHeartbeats 1000000 in
theorem cc_fresh (b:Nat) (w:World) (h0:w.cell? ⟨b,0,none⟩=some (.pointer none)) (hsh:w.shape? b=some (155,2)) (hfz:w.frozen? ⟨b,0,none⟩=false) :
  Calls Tryz.prog 129 #[.pointer (some ⟨b,0,none⟩)] w fun e w'=>e=.returned (.tuple #[]) /\ w'=w.setCell ⟨b,0,none⟩ (.pointer (some ⟨b,0,none⟩)):=by
 obtain ⟨j,hj,hjs⟩:=Option.map_eq_some_iff.1 szB
 go_enter Tryz.func129,Tryz.ntmps129
 go_wp2
 rw [Lib.run_to_unsafe w ⟨b,0,none⟩ Tryz.underlying153 Tryz.underlying226 hj (by rw [hjs];decide) hsh (Nat.zero_lt_succ 1)]
 simp only [Result.andThen]
 rw [Oper.upon_value]
 go_wp2
 rw [run_callFunc_extern Tryz.func161 (by kernel_rfl) (by kernel_rfl) (by kernel_rfl) (e:=Extern.AbiNoEscape.same) (by kernel_rfl)]
 rw [Lib.run_noEscape]
 simp only [Result.andThen]
 rw [Oper.upon_value]
 go_wp2
 rw [Lib.run_from_unsafe w ⟨b,0,none⟩ Tryz.underlying226 Tryz.underlying153 hj hsh liB]
 simp only [Result.andThen]
 rw [Oper.upon_value]
 go_wp2
 go_end0
 exact ⟨rfl,rfl⟩
theorem cc_k (B b:Nat) (bs:List Value) (w:World) (h:Lib.IsBuilderF 155 5 B b bs w) :
  Calls Tryz.prog 129 #[.pointer (some ⟨b,0,none⟩)] w fun e w'=>e=.returned (.tuple #[]) /\ (Lib.BuilderAtF 155 5 B b (.pointer (some ⟨b,0,none⟩)) bs w' /\ Below B w w' /\ Lib.OthersKept 5 (some b) w w'):=by
 rcases h with h | h
 ·refine (cc_fresh b w h.cell0 h.shape h.frozen0).mono ?_
  rintro e w' ⟨rfl,rfl⟩
  exact ⟨rfl,h.used _,(Below.refl B w).setCell (p:=⟨b,0,none⟩) h.1 _,(Lib.OthersKept.refl _ _ w).setCell ⟨b,0,none⟩ rfl _⟩
 ·refine (cc_used b w h.cell0).mono ?_
  rintro e w' ⟨rfl,rfl⟩
  exact ⟨rfl,h,Below.refl B _,Lib.OthersKept.refl _ _ _⟩
set_option maxHeartbeats 2000000 in
theorem wb_k (B b:Nat) (bs:List Value) (c:Int) (w:World) (h:Lib.IsBuilderF 155 5 B b bs w) (hlen:bs.length+1<=140737488355328) (hBw:B<=w.heap.size) :
  Calls Tryz.prog 91 #[.pointer (some ⟨b,0,none⟩),.int .u8 c] w fun e w'=>e=.returned .nilIface /\ (Lib.BuilderAtF 155 5 B b (.pointer (some ⟨b,0,none⟩)) (bs++[.int .u8 c]) w' /\ Below B w w' /\ Lib.OthersKept 5 (some b) w w'):=by
 obtain ⟨i0,hi,hz0,hz1,hz2⟩:=info_parts infB
 go_enter Tryz.func91,Tryz.ntmps91
 go_wp2_with (go_at_call 129;refine (cc_k B b bs _ h).mono ?_)
 rintro e w1 ⟨rfl,h1,hb1,hk1⟩
 obtain ⟨hB,v,hbk,hown,hne⟩:=h1
 have c0:w1.cell? ⟨b,0,none⟩=some (.pointer (some ⟨b,0,none⟩)):=by rw [Lib.cell_of_heap hbk];rfl
 have c1:w1.cell? ⟨b,1,none⟩=some v:=by rw [Lib.cell_of_heap hbk];rfl
 go_wp2_with (at_builtin;refine wpList_append_ownF _ rfl _ _ 32 rfl B 5 i0 (.int .u8 0) 1 1 Tryz.underlying32 hi hz0 hz1 hz2 rfl (by decide) _ _ _ rfl (hown.alloc _) ⟨w1.heap.size,0,none⟩ 1 1 [.int .u8 c] rfl rfl ?c1 ?c2 ?c3 ?c4 ?c5 ?_)
 case c1=>
  intro j u hj
  match j,hj with
  | 0,hj=>simp at hj;subst hj;simp [Addr.add]
 case c2=>intro u hu;simp at hu;subst hu;rfl
 case c3=>unfold maxLen;omega
 case c4=>omega
 case c5=>have:=hb1.size;simp;omega
 intro v' w2 hown' hgrow _
 have hlt:b < w1.heap.size:=by
  rcases Nat.lt_or_ge b w1.heap.size with h' | h'
  ·exact h'
  ·simp [Array.getElem?_eq_none h'] at hbk
 have hb2:w2.heap[b]? = some (.cells #[.pointer (some ⟨b,0,none⟩),v] 155 (0,0)):=by
  rw [hgrow.block b (by simp;omega) (fun e=>hne e.symm),Lib.alloc_old w1 _ b hlt]
  exact hbk
 have d0:w2.cell? ⟨b,0,none⟩=some (.pointer (some ⟨b,0,none⟩)):=by rw [Lib.cell_of_heap hb2];rfl
 have d1:w2.cell? ⟨b,1,none⟩=some v:=by rw [Lib.cell_of_heap hb2];rfl
 have f1:w2.frozen? ⟨b,1,none⟩=false:=Lib.frozen_of_heap hb2 1
 obtain ⟨g,cap,rfl⟩:∃ g cap,v'=.slice (some ⟨g,0,none⟩) (bs.length+1) cap:=by
  rcases hown'.2 with ⟨_,h0⟩ | ⟨g,cap,cur,fz,hv,_⟩
  ·omega
  ·exact ⟨g,cap,hv⟩
 go_wp2
 go_ret
 refine ⟨rfl,?_,?_,((hk1.alloc _).grown hgrow (Lib.ownsRowF_kind (hown.alloc _))).setCell ⟨b,1,none⟩ rfl _⟩
 ·exact Lib.BuilderAtF.put (T:=155) (e:=5) hB hb2 (bs':=bs++[.int .u8 c]) (by simpa using hown') (by decide)
 ·exact ((hb1.alloc (by have:=hb1.size;omega) _).grown hgrow (by have:=hb1.size;simp;omega) (fun k hk=>(hown.lt k hk).1)).setCell (p:=⟨b,1,none⟩) hB _
end Go.Proofs.YtgfmfgombmpodaaGreatDoor
namespace Go.Proofs.YtgfmfgombmpodaaGreatDoor
open Go.RowKit Go.Shelf Pv
set_option linter.unusedVariables false
def hexA:ByteArray:=⟨#[48,49,50,51,52,53,54,55,56,57,97,98,99,100,101,102]⟩
theorem hexA_size:hexA.size=16:=rfl
def hexs:List UInt8:=[48,49,50,51,52,53,54,55,56,57,97,98,99,100,101,102]
theorem hex_at {q:Nat} (h:q < 16):hexs.getD q 0=hexA[q]'(by rw [hexA_size];exact h):=by
 rw [List.getD_eq_getElem?_getD,List.getElem?_eq_getElem (show q < hexs.length from h)]
 rfl
def hex2 (x:Int):List UInt8:=[hexs.getD (x / 16).toNat 0,hexs.getD (x % 16).toNat 0]
def hexK (l:List Int):Nat->List UInt8
 | 0=>[]
 | k+1=>hexK l k++hex2 (l.getD k 0)
theorem hexK_len (l:List Int):∀ k,(hexK l k).length=2*k
 | 0=>rfl
 | k+1=>by
  show (hexK l k++hex2 _).length=_
  rw [List.length_append,hexK_len l k]
  show 2*k+2=_
  omega
theorem and15_f:∀ q:Fin 256,bits BinOp.and IntKind.u8 (q.val:Int) 15=(q.val:Int) % 16:=by decide +kernel
theorem and15 {x:Int} (h0:0<=x) (h1:x < 256):bits BinOp.and IntKind.u8 x 15=x % 16:=by
 have:=and15_f ⟨x.toNat,by omega⟩
 simp only [show ((x.toNat:Nat):Int)=x by omega] at this
 exact this
def hexB (l:List Int):List UInt8:=hexK l l.length
set_option maxHeartbeats 4000000 in
set_option maxRecDepth 1000000 in
theorem hex_walk (l:List Int) (hl:∀ x∈l,0<=x /\ x < 256) (a:Option Addr) (n c:Nat) (hlen:l.length=n) (hn:n<=1099511627776) (w:World) (hcells:∀ i x,l[i]? = some x -> ∃ ad,a=some ad /\ w.cell? (ad.add i)=some (.int .u8 x)) :
  Calls Tryz.prog 69 #[.slice a n c] w fun e w'=>e=.returned (.string ⟨(hexB l).toArray⟩) /\ Below w.heap.size w w':=by
 go_enter Tryz.func69,Tryz.ntmps69
 go_wp2
 go_loopw [8] (fun v wr=>∃ (i:Nat),v=.int .i64 i /\ i<=n /\ Lib.IsBuilderF 155 5 w.heap.size w.heap.size (Lib.byteCells (hexK l i)) wr /\ Below w.heap.size w wr) (fun i _=>n+3 - (intOf i).toNat)
 case atStart=>
  refine ⟨0,rfl,by omega,Lib.IsBuilderF.of (Lib.fresh_isBuilder 155 5 w),(Below.refl _ w).alloc (Nat.le_refl _) _⟩
 case round=>
  obtain ⟨i,rfl,hk,hI,hb⟩:=hrel
  have hal:=hexK_len l i
  obtain ⟨acc,hacc⟩:∃ acc,hexK l i=acc:=⟨_,rfl⟩
  rw [hacc] at hI hal
  obtain ⟨wo,rfl⟩:∃ wo:World,wo=wr:=⟨_,rfl⟩
  have hsz:w.heap.size<=wo.heap.size:=hb.size
  by_cases hlt:i < n
  ·obtain ⟨ad,rfl,hc0⟩:=hcells i _ (List.getElem?_eq_getElem (by omega))
   have hc:=hb.cell (cell_lt hc0)
   rw [hc0] at hc
   obtain ⟨x,hx⟩:∃ x,l[i]=x:=⟨_,rfl⟩
   have hx01:=hl _ (List.getElem_mem (show i < l.length by omega))
   rw [hx] at hc hx01 hc0
   have hsuc:hexK l (i+1)=acc++hex2 x:=by
    show hexK l i++hex2 (l.getD i 0)=_
    rw [hacc,List.getD_eq_getElem?_getD,List.getElem?_eq_getElem (by omega),Option.getD_some,hx]
   obtain ⟨hx0,hx1⟩:=hx01
   clear hcells hl
   have hlb:(Lib.byteCells acc).length+1<=140737488355328:=by rw [Lib.byteCells_length];omega
   go_wp2_with (go_at_call 91;refine (wb_k w.heap.size w.heap.size _ _ _ hI hlb hsz).mono ?_)
   rintro e W1 ⟨rfl,h1,b1,k1⟩
   have hsz1:w.heap.size<=W1.heap.size:=(hb.trans b1).size
   have hc1:W1.cell? (ad.add i)=some (Value.int IntKind.u8 x):=by
    rw [(hb.trans b1).cell (cell_lt hc0)];exact hc0
   obtain ⟨L1,hL1⟩:∃ L1,(Lib.byteCells acc++[Value.int IntKind.u8 ((hexA[(x / 16).toNat]'(by rw [hexA_size];omega)).toNat:Nat)])=L1:=⟨_,rfl⟩
   have h1:Lib.BuilderAtF 155 5 w.heap.size w.heap.size (Value.pointer (some { block:=w.heap.size,off:=0 })) L1 W1:=by rw [<-hL1];exact h1
   have hlb1:L1.length+1<=140737488355328:=by rw [<-hL1,List.length_append,Lib.byteCells_length];show _+1+1<=_;omega
   have had:=and15 hx0 hx1
   clear hI
   go_wp2_with (go_at_call 91;refine (wb_k w.heap.size w.heap.size _ _ _ (Or.inr h1) hlb1 hsz1).mono ?_)
   rintro e W2 ⟨rfl,h2,b2,k2⟩
   go_wp2
   refine ⟨⟨i+1,?relC,by omega,?relD,(hb.trans b1).trans b2⟩,?meaS⟩
   case relC=>simp
   case relD=>
    have key:Lib.byteCells (hexK l (i+1))=L1++[.int .u8 ((hexA[(x % 16).toNat]'(by rw [hexA_size];omega)).toNat:Nat)]:=by
     rw [hsuc,<- hL1,Lib.byteCells_append]
     unfold hex2
     rw [hex_at (show (x / 16).toNat < 16 by omega),hex_at (show (x % 16).toNat < 16 by omega),List.append_assoc];rfl
    rw [key]
    exact Or.inr h2
   case meaS=>simp [intOf];omega
  ·obtain rfl:i=n:=by omega
   go_wp2_with (go_at_call 92;refine (Tryz.Builder_String_any_k w.heap.size w.heap.size acc _ hI (by omega)).mono ?_)
   rintro e W1 ⟨rfl,_,b1,_⟩
   go_wp2
   go_ret
   unfold hexB
   rw [hlen,hacc]
   exact ⟨rfl,hb.trans b1⟩
def F_conf_Hex_sig:Sig:=⟨[.v false [.d (.sl (.int .u8))]],[(false,[.d .str])]⟩
def F_conf_Hex (l:List Int):Option (List Int):=cond (Nat.ble l.length 1099511627776) (some ((hexB l).map byteI)) none
theorem ent_hex (l:List Int):(entrySt F_conf_Hex_sig [⟨.sl (.int .u8),l⟩]).map (fun st=>st.φ 0)=some (.w false [.d (.sl (.int .u8)) l]):=rfl
theorem exit_hex (y:List Int):∃ st',exitSt F_conf_Hex_sig y=some st' /\ st'.φ 0=.w false [.d .str y] /\ (∀ i,st'.φ (i+1)=.dead) /\ (∀ k,st'.L k=none) /\ (∀ k,st'.O k=true->k=.zero) /\ st'.kn=[] /\ st'.fr=[]:=
 ⟨_,rfl,rfl,fun _=>rfl,fun k=>by match k with | 0=>rfl | _+1=>rfl,fun k hk=>by
  have hk:hasT [.zero] k=true:=hk
  simpa using hasT_iff.1 hk,rfl,rfl⟩
theorem F_conf_Hex_sound {T:Tab}:SoundFn Tryz.prog T 69 F_conf_Hex_sig ⟨F_conf_Hex⟩:=by
 intro F g st xs y tmf w args _ hent happ hrel hw hn hsz htm
 obtain ⟨(l:List Int),xs',rfl,h2⟩:=appF_inv_c (ts:=[]) happ
 obtain ⟨rfl,h3⟩:=appF_inv_n h2
 have hφ:Option.map (fun st:PSt=>st.φ 0) (some st)=_:=(congrArg _ hent).symm.trans (ent_hex l)
 have hφ:some (st.φ 0)=some _:=hφ
 injection hφ with hφ
 have h0:=hrel.slots 0
 rw [hφ,htm 0] at h0
 obtain ⟨a,n,c,e0,e1,e2,e3,e4,e5⟩:=rel_bytes h0
 have ha:args = #[.slice a n c]:=by
  obtain ⟨al⟩:=args
  match al,hsz with
  | [v],_=>
   have:v=.slice a n c:=e0
   rw [this]
 subst ha
 have h3:cond (Nat.ble l.length 1099511627776) (some ((hexB l).map byteI)) none=some y:=h3
 cases hb:Nat.ble l.length 1099511627776 with
 | false=>rw [hb] at h3;cases h3
 | true=>
  rw [hb] at h3
  have hy:(hexB l).map byteI=y:=by injection h3
  have hle:l.length<=1099511627776:=Nat.le_of_ble_eq_true hb
  obtain ⟨st',x1,x2,x3,x4,x5,x6,x7⟩:=exit_hex y
  refine (hex_walk l e4 a n c e1 (by rw [<-e1];exact hle) w e5).mono fun e w' ⟨he,hbel⟩=>⟨[.string ⟨(hexB l).toArray⟩],_,st',he,rfl,x1,mrel_out (t:=.str) (x:=y) hrel hbel ⟨_,rfl,?_,?_⟩ x2 x3 x4 x5 x6 x7,fun k hk=>?_⟩
  ·rw [<-hy]
   show (hexB l).toArray.toList.map byteI=_
   rw [List.toList_toArray]
  ·show (hexB l).toArray.size<=maxLen
   rw [List.size_toArray]
   unfold hexB
   rw [hexK_len]
   unfold maxLen
   omega
  ·cases k with
   | zero=>cases hk
   | succ k=>cases k <;> cases hk
end Go.Proofs.YtgfmfgombmpodaaGreatDoor
