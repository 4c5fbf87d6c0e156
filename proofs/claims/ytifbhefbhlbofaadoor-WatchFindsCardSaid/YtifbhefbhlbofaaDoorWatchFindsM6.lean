/- Texts of this claim, one behind the other. -/
import Derived.Test.YtifbhefbhlbofaaDoorWatchFindsM5
import Derived.Shelf.Spec.SlicesGrow
import Derived.LoopTactic
import Derived.Handy
import Derived.RegionTactic
import Derived.Laws.BitsLemmas
import Ieee.Arith
import GoSem.Core.Float
set_option maxRecDepth 100000
namespace Go.Proofs.YtifbhefbhlbofaaDoor
open Go.RowKit Go.Lib Pv
set_option linter.unusedVariables false
def growRen:Go.Shelf.Ren:=⟨fun | 4=>38 | n=>n,fun | 22=>26 | 25=>5 | n=>n,fun n=>n⟩
theorem growLays:Lays8.n4 Tryd.prog growRen:={
 mixed:=by kernel_rfl
 f4 := ⟨"slices.Grow[[]byte,byte]", by decide, Tryd.func38.trans (congrArg some (by kernel_rfl))⟩
 t0:=Tryd.underlying0
 a0:=Tryd.isAgg0
 z0:=Tryd.sizeOf0
 v0:=Tryd.zeroValue0
 t3:=Tryd.underlying3
 a3:=Tryd.isAgg3
 z3:=Tryd.sizeOf3
 v3:=Tryd.zeroValue3
 t4:=Tryd.underlying4
 a4:=Tryd.isAgg4
 z4:=Tryd.sizeOf4
 v4:=Tryd.zeroValue4
 t9:=Tryd.underlying9
 a9:=Tryd.isAgg9
 z9:=Tryd.sizeOf9
 v9:=Tryd.zeroValue9
 t20:=Tryd.underlying20
 a20:=Tryd.isAgg20
 z20:=Tryd.sizeOf20
 v20:=Tryd.zeroValue20
 t22:=Tryd.underlying26
 a22:=Tryd.isAgg26
 z22:=Tryd.sizeOf26
 v22:=Tryd.zeroValue26 }
theorem grow_nil (n:Nat) (hn:n<=1000000000) (w:World) :
  Calls Tryd.prog 38 #[.slice none 0 0,.int .i64 n] w fun e w'=>∃ v,e=.returned v /\ w'.ownsRow w.heap.size 5 1 v 0 [] /\ Below w.heap.size w w':=by
 obtain ⟨i0,hi,hz0,hz1,hz2⟩:=info_parts infoU
 by_cases h0:n=0
 ·subst h0
  refine (Any8.slices_Grow_room growLays none 0 0 0 w (Nat.le_refl _) (by omega) (by omega) (Nat.le_refl _)).mono ?_
  rintro e w' ⟨rfl,rfl⟩
  exact ⟨_,rfl,World.ownsRow_nil _ _ _ _,Below.refl _ _⟩
 ·refine (Any8.slices_Grow_grow growLays i0 (.int .u8 0) hi hz0 (by rw [hz1];decide) none 0 0 n [] w (Nat.le_refl _) (by omega) (by rw [hz2];omega) (by omega) (by simp) (fun _=>rfl) (fun a h=>by cases h)).mono ?_
  rintro e w' ⟨rfl,rfl⟩
  have hge:=grownCap_ge w (0+n) 0 5
  have hle:=grownCap_le_maxLen w (0+n) 0 5 (by unfold maxLen;omega)
  refine ⟨_,rfl,World.ownsRow_made w.drew _ _ (Nat.le_refl _) hle ?_,((Below.refl _ w).drew).alloc (Nat.le_refl _) _⟩
  have e:(Value.int .u8 0).cells.size=1:=rfl
  show (#[]++Builtin.zeroCells (Value.int .u8 0).cells (0+n - 0)++Builtin.zeroCells (Value.int .u8 0).cells (grownCap w (0+n) 0 5 - (0+n))).size=grownCap w (0+n) 0 5*1
  rw [Array.size_append,Array.size_append,size_zeroCells,size_zeroCells,e]
  simp only [List.size_toArray,List.length_nil]
  omega
def InRowQ (w:World) (a:Option Addr) (L:List (List Int)):Prop:=∀ (i:Nat) l,L[i]? = some l -> ∃ ad b n c,a=some ad /\ w.cell? (ad.add i)=some (.slice b n c) /\ l.length=n /\ (∀ bd,b=some bd -> ∀ (j:Nat) x,l[j]? = some x->w.cell? (bd.add j)=some (.int .u8 x)) /\ (b=none->l=[])
theorem take_flat {L:List (List Int)} {k:Nat} {l:List Int} (h:L[k]? = some l):(L.take (k+1)).flatten=(L.take k).flatten++l:=by
 rw [List.take_add_one,h,List.flatten_append]
 simp
theorem take_flat_le (L:List (List Int)) (k:Nat):(L.take k).flatten.length<=L.flatten.length:=by
 have:L.flatten=(L.take k).flatten++(L.drop k).flatten:=by rw [<-List.flatten_append,List.take_append_drop]
 rw [this,List.length_append];omega
theorem run_app_none {P:Program} {w:World} (base:Nat) (t ty e:TypeId) (i:TypeInfo) (size:Nat) (ht:P.underlying t=some (.slice e)) (hi:P.info? e=some i) (v:Value) (n c:Nat) (xs:List Value) (hown:w.ownsRow base e size v n xs) :
  (Builtin.append_ #[t,t] ty #[v,.slice none 0 c]).run P w=.ok v w:=by
 rcases hown.2 with ⟨rfl,rfl⟩ | ⟨g,cap,cur,rfl,_,_,hnc,_⟩
 ·simp [Builtin.append_,run_underlying ht,sizeOf,typeInfo,hi,Builtin.lenOf,Builtin.firstCells]
 ·simp [Builtin.append_,run_underlying ht,sizeOf,typeInfo,hi,Builtin.lenOf,Builtin.firstCells,hnc,storeCells]
theorem wpList_app_any {P:Program} {w:World} {ops:Array Oper} {rest:List Oper} {o:Oper} {a:Act} {Q:Exit->Act->World->Prop} (hgd:o.guard=none) (s x:Operand) (t:TypeId)
  (ho:o.op=.call { callee:=.builtin .append,args:=#[s,x],argTypes:=#[t,t] }) (base:Nat) (e:TypeId) (i:TypeInfo) (z:Value) (ht:P.underlying t=some (.slice e)) (hi:P.info? e=some i) (hz:i.zero=some z) (hsize:i.size=1) (hby:i.bytes=1) (hzs:z.cells.size=1)
  (v:Value) (n:Nat) (xs:List Value) (hs:a.eval s=v) (hown:w.ownsRow base e 1 v n xs) (b:Option Addr) (m c:Nat) (l:List Int) (hx:a.eval x=.slice b m c) (hl:l.length=m)
  (hin:∀ bd,b=some bd -> ∀ (j:Nat) y,l[j]? = some y->w.cell? (bd.add j)=some (.int .u8 y)) (hnil:b=none->l=[]) (hbytes:n+m<=1000000000) (hbase:base<=w.heap.size)
  (h:∀ v' w',w'.ownsRow base e 1 v' (n+m) (xs++l.map (Value.int .u8))->Below base w w'->wpList P ops Q rest (a.put o.dst v') w'):wpList P ops Q (o::rest) a w:=by
 cases b with
 | none=>
  have hl0:=hnil rfl
  subst hl0
  have hm:m=0:=hl.symm
  subst hm
  refine wpList_plain hgd fun K hK=>?_
  have hrun:=run_app_none (P:=P) (w:=w) base t o.type e i 1 ht hi v n c xs hown
  unfold Oper.wp
  simp [execOp,ho,resolve,invoke,builtin,hs,hx,hrun,Result.andThen]
  exact hK _ _ (h v w (by simpa using hown) (Below.refl _ _))
 | some ad=>
  refine wpList_append_own w hgd s x t ho base e i z 1 1 ht hi hz hsize hby hzs (by omega) v n xs hs hown ad m c (l.map (Value.int .u8)) hx (by rw [List.length_map,hl,Nat.mul_one]) (fun j u hj=>?_) (fun u hu=>?_) (by unfold maxLen;omega) (by omega) hbase fun v' w' h1 h2 _=>h v' w' h1 ((Below.refl _ w).grown h2 hbase fun k hk=>?_)
  ·rw [List.getElem?_map] at hj
   obtain ⟨y,hy,rfl⟩:=Option.map_eq_some_iff.1 hj
   exact hin ad rfl j y hy
  ·obtain ⟨y,_,rfl⟩:=List.mem_map.1 hu
   rfl
  ·rcases hown.2 with ⟨rfl,_⟩ | ⟨b0,cap,cur,rfl,hb0,_⟩
   ·simp [Value.ownBlock] at hk
   ·simp [Value.ownBlock] at hk
    omega
theorem InRowQ.below {w w':World} {a:Option Addr} {L:List (List Int)} (h:InRowQ w a L) (hb:Below w.heap.size w w'):InRowQ w' a L:=fun i l hl=>by
 obtain ⟨ad,b,n,c,h1,h2,h3,h4,h5⟩:=h i l hl
 have keep:∀ {p:Addr} {u:Value},w.cell? p=some u->w'.cell? p=some u:=fun {p u} hp=>by rw [hb.cell (block_lt_of_cell hp)];exact hp
 exact ⟨ad,b,n,c,h1,keep h2,h3,fun bd hbd j x hx=>keep (h4 bd hbd j x hx),h5⟩
set_option maxHeartbeats 8000000 in
set_option maxRecDepth 1000000 in
theorem cat_walk (a:Option Addr) (m c:Nat) (L:List (List Int)) (w:World) (hm:L.length=m) (hm2:m<=100000000) (hb:L.flatten.length<=100000000) (hc:Aside (InRowQ w a L)) :
  Calls Tryd.prog 31 #[.slice a m c] w fun e w'=>∃ v,e=.returned v /\ w'.ownsRow w.heap.size 5 1 v L.flatten.length (L.flatten.map (Value.int .u8)) /\ Below w.heap.size w w':=by
 obtain ⟨i0,hi,hz0,hz1,hz2⟩:=info_parts infoU
 go_enter Tryd.func31,Tryd.ntmps31
 go_wp2
 go_loopw [3,11] (fun s i wr=>wr=w /\ ∃ k:Nat,k<=m /\ i=.int .i64 k /\ s=.int .i64 ((L.take k).flatten.length:Nat)) (fun _ i _=>m - (RowKit.intOf i).toNat)
 case atStart=>exact ⟨rfl,0,Nat.zero_le _,rfl,rfl⟩
 case round=>
  obtain ⟨hwr,k,hk,rfl,rfl⟩:=hrel
  have hwr:=hwr.symm
  subst hwr
  have hle:=take_flat_le L k
  obtain ⟨s,hs⟩:∃ s,(L.take k).flatten.length=s:=⟨_,rfl⟩
  rw [hs] at hle ⊢
  by_cases hlt:k < m
  ·obtain ⟨l,hl⟩:∃ l,L[k]? = some l:=⟨L[k]'(by omega),List.getElem?_eq_getElem (by omega)⟩
   obtain ⟨ad,b,n,c',ha,hcell,hn,_⟩:=hc.out k l hl
   have hs2:(L.take (k+1)).flatten.length=s+n:=by rw [take_flat hl,List.length_append,hs,hn]
   have hle2:=take_flat_le L (k+1)
   rw [hs2] at hle2
   subst ha
   go_wp2
   go_roundw
   case rel=>exact ⟨trivial,k+1,by omega,by simp,by rw [hs2];simp⟩
   case measure=>simp [RowKit.intOf];omega
  ·have hkm:k=m:=by omega
   subst hkm
   have hall:L.take k=L:=List.take_of_length_le (by omega)
   rw [hall] at hs
   go_wp2_with (go_at_call 38;(with_reducible refine (grow_nil s (by omega) _).mono ?_);rintro e w1 ⟨v,rfl,hown,hbel⟩)
   go_loopw [6,27] (fun v i wr=>∃ j:Nat,j<=k /\ i=.int .i64 j /\ wr.ownsRow w.heap.size 5 1 v (L.take j).flatten.length ((L.take j).flatten.map (Value.int .u8)) /\ Below w.heap.size w wr) (fun _ i _=>k - (RowKit.intOf i).toNat)
   case atStart=>exact ⟨0,Nat.zero_le _,rfl,by simpa using hown,hbel⟩
   case round=>
    obtain ⟨j,hj,rfl,hown2,hbel2⟩:=hrel
    by_cases hlt2:j < k
    ·obtain ⟨l,hl⟩:∃ l,L[j]? = some l:=⟨L[j]'(by omega),List.getElem?_eq_getElem (by omega)⟩
     obtain ⟨ad,b,n,c',ha,hcell,hn,hin,hnil⟩:=hc.out j l hl
     subst ha
     have hs2:(L.take (j+1)).flatten=(L.take j).flatten++l:=take_flat hl
     have hle2:=take_flat_le L (j+1)
     rw [hs2,List.length_append,hn] at hle2
     have keep:∀ {p:Addr} {u:Value},w.cell? p=some u->wr.cell? p=some u:=fun {p u} hp=>by rw [hbel2.cell (block_lt_of_cell hp)];exact hp
     have hcell2:=keep hcell
     have B:Aside (Below w.heap.size w wr /\ wr.ownsRow w.heap.size 5 1 u6 (L.take j).flatten.length ((L.take j).flatten.map (Value.int .u8)) /\ (∀ bd,b=some bd -> ∀ (i:Nat) y,l[i]? = some y->wr.cell? (bd.add i)=some (.int .u8 y)) /\ (b=none->l=[]) /\ l.length=n /\ (L.take (j+1)).flatten=(L.take j).flatten++l /\ (L.take j).flatten.length+n<=1000000000):=⟨hbel2,hown2,fun bd hbd i y hy=>keep (hin bd hbd i y hy),hnil,hn,hs2,by omega⟩
     clear hbel2 hown2 hin hnil hs2 hle2 keep hcell hown hbel hs hall
     go_wp2_with (at_builtin;refine wpList_app_any rfl _ _ 26 rfl w.heap.size 5 i0 (.int .u8 0) Tryd.underlying26 hi hz0 hz1 hz2 rfl _ _ _ rfl B.out.2.1 b n c' l rfl B.out.2.2.2.2.1 B.out.2.2.1 B.out.2.2.2.1 B.out.2.2.2.2.2.2 B.out.1.size ?_;intro v2 w2 hown3 hbel3)
     go_roundw
     case rel=>
      refine ⟨j+1,by omega,by simp,?_,B.out.1.trans hbel3⟩
      rw [B.out.2.2.2.2.2.1,List.length_append,List.map_append,B.out.2.2.2.2.1]
      exact hown3
     case measure=>simp [RowKit.intOf];omega
    ·have hjk:j=k:=by omega
     subst hjk
     rw [hall] at hown2
     go_wp2
     go_ret
     rw [hs] at hown2 ⊢
     exact ⟨_,rfl,hown2,hbel2⟩
theorem inRow_of {w:World} {C:Com} {L:List (List Int)} {cs:List Value} (h:RepD w C (.sl (.sl (.int .u8))) L cs):∃ a m c,cs=[.slice a m c] /\ L.length=m /\ InRowQ w a L /\ ∀ l∈L,∀ x∈l,(Lit.int .u8 x).wf=true:=by
 obtain ⟨a,n,c,e0,e1,e2,e3,e4⟩:=h
 have key:∀ (i:Nat) (l:List Int),L[i]? = some l->(∃ ad b n c,a=some ad /\ w.cell? (ad.add i)=some (.slice b n c) /\ l.length=n /\ (∀ bd,b=some bd -> ∀ (j:Nat) x,l[j]? = some x->w.cell? (bd.add j)=some (.int .u8 x)) /\ (b=none->l=[])) /\ ∀ x∈l,(Lit.int .u8 x).wf=true:=fun i l hl=>by
  obtain ⟨ad,us,h1,h2,h3,h4⟩:=e4 i l hl
  obtain ⟨b,n',c',f0,f1,f2,f3,f4,f5,f6⟩:=ints_of h4
  have:=(h3 0 (.slice b n' c') (by rw [f0];rfl)).1
  rw [show (Ty.sl (Ty.int .u8)).size=1 from rfl,Nat.mul_one,Nat.add_zero] at this
  exact ⟨⟨ad,b,n',c',h1,this,f1,f5,f6⟩,f4⟩
 refine ⟨a,n,c,e0,e1,fun i l hl=>(key i l hl).1,fun l hl x hx=>?_⟩
 obtain ⟨i,hi⟩:=List.mem_iff_getElem?.1 hl
 exact (key i l hi).2 x hx
theorem F_slices_Concat_byte_byte_sound {T:Tab}:SoundFn Tryd.prog T 31 F_slices_Concat_byte_byte_sig ⟨F_slices_Concat_byte_byte⟩:=by
 refine sound_of rfl fun F g O xs ls y tmf w args hT hw hlim hls happ hsz hr=>?_
 obtain ⟨(L:List (List Int)),xs',rfl,h2⟩:=appF_inv_c (ts:=[]) happ
 obtain ⟨rfl,h3⟩:=appF_inv_n h2
 have hls':some [Leaf.d (.sl (.sl (.int .u8))) L]=some ls:=hls
 injection hls' with hls'
 subst hls'
 obtain ⟨a,m,c,e0,e1,e2,e3⟩:=inRow_of (rel_leaf.1 (hr 0))
 have e0:args.getD 0 undef=.slice a m c:=by injection e0
 rw [args_1 hsz,e0]
 have h3:cond (Nat.ble L.flatten.length 100000000&&Nat.ble L.length 100000000) (some L.flatten) none=some y:=h3
 cases hb:(Nat.ble L.flatten.length 100000000&&Nat.ble L.length 100000000) with
 | false=>rw [hb] at h3;cases h3
 | true=>
  rw [hb] at h3
  have hy:L.flatten=y:=by injection h3
  rw [Bool.and_eq_true] at hb
  have b1:=Nat.le_of_ble_eq_true hb.1
  have b2:=Nat.le_of_ble_eq_true hb.2
  subst hy
  refine (cat_walk a m c L w e1 (by omega) b1 e2).mono ?_
  rintro e w' ⟨v,rfl,h1,h2⟩
  exact own_row (l:=L.flatten) hw hlim h2 h1 (fun x hx=>by obtain ⟨l,hl,hx⟩:=List.mem_flatten.1 hx;exact e3 l hl x hx) rfl rfl
end Go.Proofs.YtifbhefbhlbofaaDoor
namespace Go.Proofs.YtifbhefbhlbofaaDoor
open Pv
theorem F_frame_New_sound {T:Tab}:SoundFn Tryd.prog T 21 F_frame_New_sig ⟨F_frame_New⟩:=by
 have h:=fn_sound (T:=T) (E:=F_frame_New_env) (by unfold Env.ok;exact fun p h=>by cases h) (A:=F_frame_New_ann) (f:=21) (fn:=Tryd.f21) (s:=F_frame_New_sig) Tryd.func21
 rw [F_frame_New_text] at h
 exact h
theorem F_sets_First_sound {T:Tab}:SoundFn Tryd.prog T 22 F_sets_First_sig ⟨F_sets_First⟩:=by
 have h:=fn_sound (T:=T) (E:=F_sets_First_env) (by unfold Env.ok;exact fun p h=>by cases h) (A:=F_sets_First_ann) (f:=22) (fn:=Tryd.f22) (s:=F_sets_First_sig) Tryd.func22
 rw [F_sets_First_text] at h
 exact h
theorem F_stat_Size_sound {T:Tab}:SoundFn Tryd.prog T 66 F_stat_Size_sig ⟨F_stat_Size⟩:=by
 have h:=fn_sound (T:=T) (E:=F_stat_Size_env) (by unfold Env.ok;exact fun p h=>by cases h) (A:=F_stat_Size_ann) (f:=66) (fn:=Tryd.f66) (s:=F_stat_Size_sig) Tryd.func66
 rw [F_stat_Size_text] at h
 exact h
theorem F_dyn_Table_shrinks_sound {T:Tab}:SoundFn Tryd.prog T 57 F_dyn_Table_shrinks_sig ⟨F_dyn_Table_shrinks⟩:=by
 have h:=fn_sound (T:=T) (E:=F_dyn_Table_shrinks_env) (by unfold Env.ok;exact List.forall_mem_cons.2 ⟨F_stat_Size_sound,fun p h=>by cases h⟩) (A:=F_dyn_Table_shrinks_ann) (f:=57) (fn:=Tryd.f57) (s:=F_dyn_Table_shrinks_sig) Tryd.func57
 rw [F_dyn_Table_shrinks_text] at h
 exact h
theorem F_dyn_Table_Limit_sound {T:Tab}:SoundFn Tryd.prog T 37 F_dyn_Table_Limit_sig ⟨F_dyn_Table_Limit⟩:=by
 have h:=fn_sound (T:=T) (E:=F_dyn_Table_Limit_env) (by unfold Env.ok;exact List.forall_mem_cons.2 ⟨F_dyn_Table_shrinks_sound,List.forall_mem_cons.2 ⟨F_slices_Clone_stat_Field_stat_Field_sound,fun p h=>by cases h⟩⟩) (A:=F_dyn_Table_Limit_ann) (f:=37) (fn:=Tryd.f37) (s:=F_dyn_Table_Limit_sig) Tryd.func37
 rw [F_dyn_Table_Limit_text] at h
 exact h
theorem F_dyn_New_sound {T:Tab}:SoundFn Tryd.prog T 30 F_dyn_New_sig ⟨F_dyn_New⟩:=by
 have h:=fn_sound (T:=T) (E:=F_dyn_New_env) (by unfold Env.ok;exact List.forall_mem_cons.2 ⟨F_dyn_Table_Limit_sound,fun p h=>by cases h⟩) (A:=F_dyn_New_ann) (f:=30) (fn:=Tryd.f30) (s:=F_dyn_New_sig) Tryd.func30
 rw [F_dyn_New_text] at h
 exact h
theorem F_unpack_New_sound {T:Tab}:SoundFn Tryd.prog T 23 F_unpack_New_sig ⟨F_unpack_New⟩:=by
 have h:=fn_sound (T:=T) (E:=F_unpack_New_env) (by unfold Env.ok;exact List.forall_mem_cons.2 ⟨F_dyn_New_sound,fun p h=>by cases h⟩) (A:=F_unpack_New_ann) (f:=23) (fn:=Tryd.f23) (s:=F_unpack_New_sig) Tryd.func23
 rw [F_unpack_New_text] at h
 exact h
theorem F_watch_New_sound {T:Tab}:SoundFn Tryd.prog T 8 F_watch_New_sig ⟨F_watch_New⟩:=by
 have h:=fn_sound (T:=T) (E:=F_watch_New_env) (by unfold Env.ok;exact List.forall_mem_cons.2 ⟨F_frame_New_sound,List.forall_mem_cons.2 ⟨F_sets_First_sound,List.forall_mem_cons.2 ⟨F_unpack_New_sound,fun p h=>by cases h⟩⟩⟩) (A:=F_watch_New_ann) (f:=8) (fn:=Tryd.f8) (s:=F_watch_New_sig) Tryd.func8
 rw [F_watch_New_text] at h
 exact h
theorem F_wlvref10_num_sound {T:Tab}:SoundFn Tryd.prog T 27 F_wlvref10_num_sig ⟨F_wlvref10_num⟩:=by
 have h:=fn_sound (T:=T) (E:=F_wlvref10_num_env) (by unfold Env.ok;exact fun p h=>by cases h) (A:=F_wlvref10_num_ann) (f:=27) (fn:=Tryd.f27) (s:=F_wlvref10_num_sig) Tryd.func27
 rw [F_wlvref10_num_text] at h
 exact h
theorem F_wlvref10_Settings_sound {T:Tab}:SoundFn Tryd.prog T 11 F_wlvref10_Settings_sig ⟨F_wlvref10_Settings⟩:=by
 have h:=fn_sound (T:=T) (E:=F_wlvref10_Settings_env) (by unfold Env.ok;exact List.forall_mem_cons.2 ⟨F_wlvref10_num_sound,fun p h=>by cases h⟩) (A:=F_wlvref10_Settings_ann) (f:=11) (fn:=Tryd.f11) (s:=F_wlvref10_Settings_sig) Tryd.func11
 rw [F_wlvref10_Settings_text] at h
 exact h
theorem F_frame_Parser_Feed_sound {T:Tab}:SoundFn Tryd.prog T 24 F_frame_Parser_Feed_sig ⟨F_frame_Parser_Feed⟩:=by
 have h:=fn_sound (T:=T) (E:=F_frame_Parser_Feed_env) (by unfold Env.ok;exact List.forall_mem_cons.2 ⟨F_slices_Concat_byte_byte_sound,fun p h=>by cases h⟩) (A:=F_frame_Parser_Feed_ann) (f:=24) (fn:=Tryd.f24) (s:=F_frame_Parser_Feed_sig) Tryd.func24
 rw [F_frame_Parser_Feed_text] at h
 exact h
theorem F_frame_Parser_Next_sound {T:Tab}:SoundFn Tryd.prog T 25 F_frame_Parser_Next_sig ⟨F_frame_Parser_Next⟩:=by
 have h:=fn_sound (T:=T) (E:=F_frame_Parser_Next_env) (by unfold Env.ok;exact List.forall_mem_cons.2 ⟨F_bytes_Clone_sound,fun p h=>by cases h⟩) (A:=F_frame_Parser_Next_ann) (f:=25) (fn:=Tryd.f25) (s:=F_frame_Parser_Next_sig) Tryd.func25
 rw [F_frame_Parser_Next_text] at h
 exact h
theorem F_part_conn_sound {T:Tab}:SoundFn Tryd.prog T 41 F_part_conn_sig ⟨F_part_conn⟩:=by
 have h:=fn_sound (T:=T) (E:=F_part_conn_env) (by unfold Env.ok;exact fun p h=>by cases h) (A:=F_part_conn_ann) (f:=41) (fn:=Tryd.f41) (s:=F_part_conn_sig) Tryd.func41
 rw [F_part_conn_text] at h
 exact h
theorem F_part_bodied_sound {T:Tab}:SoundFn Tryd.prog T 39 F_part_bodied_sig ⟨F_part_bodied⟩:=by
 have h:=fn_sound (T:=T) (E:=F_part_bodied_env) (by unfold Env.ok;exact List.forall_mem_cons.2 ⟨F_bytes_Clone_sound,List.forall_mem_cons.2 ⟨F_part_conn_sound,fun p h=>by cases h⟩⟩) (A:=F_part_bodied_ann) (f:=39) (fn:=Tryd.f39) (s:=F_part_bodied_sig) Tryd.func39
 rw [F_part_bodied_text] at h
 exact h
theorem F_part_number_sound {T:Tab}:SoundFn Tryd.prog T 45 F_part_number_sig ⟨F_part_number⟩:=by
 have h:=fn_sound (T:=T) (E:=F_part_number_env) (by unfold Env.ok;exact fun p h=>by cases h) (A:=F_part_number_ann) (f:=45) (fn:=Tryd.f45) (s:=F_part_number_sig) Tryd.func45
 rw [F_part_number_text] at h
 exact h
theorem F_part_settings_sound {T:Tab}:SoundFn Tryd.prog T 40 F_part_settings_sig ⟨F_part_settings⟩:=by
 have h:=fn_sound (T:=T) (E:=F_part_settings_env) (by unfold Env.ok;exact List.forall_mem_cons.2 ⟨F_part_conn_sound,List.forall_mem_cons.2 ⟨F_part_number_sound,fun p h=>by cases h⟩⟩) (A:=F_part_settings_ann) (f:=40) (fn:=Tryd.f40) (s:=F_part_settings_sig) Tryd.func40
 rw [F_part_settings_text] at h
 exact h
theorem F_part_whole_sound {T:Tab}:SoundFn Tryd.prog T 42 F_part_whole_sig ⟨F_part_whole⟩:=by
 have h:=fn_sound (T:=T) (E:=F_part_whole_env) (by unfold Env.ok;exact List.forall_mem_cons.2 ⟨F_bytes_Clone_sound,List.forall_mem_cons.2 ⟨F_part_conn_sound,List.forall_mem_cons.2 ⟨F_part_number_sound,fun p h=>by cases h⟩⟩⟩) (A:=F_part_whole_ann) (f:=42) (fn:=Tryd.f42) (s:=F_part_whole_sig) Tryd.func42
 rw [F_part_whole_text] at h
 exact h
theorem F_part_stream_sound {T:Tab}:SoundFn Tryd.prog T 44 F_part_stream_sig ⟨F_part_stream⟩:=by
 have h:=fn_sound (T:=T) (E:=F_part_stream_env) (by unfold Env.ok;exact fun p h=>by cases h) (A:=F_part_stream_ann) (f:=44) (fn:=Tryd.f44) (s:=F_part_stream_sig) Tryd.func44
 rw [F_part_stream_text] at h
 exact h
theorem F_part_update_sound {T:Tab}:SoundFn Tryd.prog T 43 F_part_update_sig ⟨F_part_update⟩:=by
 have h:=fn_sound (T:=T) (E:=F_part_update_env) (by unfold Env.ok;exact List.forall_mem_cons.2 ⟨F_part_conn_sound,List.forall_mem_cons.2 ⟨F_part_stream_sound,List.forall_mem_cons.2 ⟨F_part_number_sound,fun p h=>by cases h⟩⟩⟩) (A:=F_part_update_ann) (f:=43) (fn:=Tryd.f43) (s:=F_part_update_sig) Tryd.func43
 rw [F_part_update_text] at h
 exact h
theorem F_part_Read_sound {T:Tab}:SoundFn Tryd.prog T 32 F_part_Read_sig ⟨F_part_Read⟩:=by
 have h:=fn_sound (T:=T) (E:=F_part_Read_env) (by unfold Env.ok;exact List.forall_mem_cons.2 ⟨F_bytes_Clone_sound,List.forall_mem_cons.2 ⟨F_part_bodied_sound,List.forall_mem_cons.2 ⟨F_part_settings_sound,List.forall_mem_cons.2 ⟨F_part_conn_sound,List.forall_mem_cons.2 ⟨F_part_whole_sound,List.forall_mem_cons.2 ⟨F_part_update_sound,List.forall_mem_cons.2 ⟨F_part_stream_sound,List.forall_mem_cons.2 ⟨F_part_number_sound,fun p h=>by cases h⟩⟩⟩⟩⟩⟩⟩⟩) (A:=F_part_Read_ann) (f:=32) (fn:=Tryd.f32) (s:=F_part_Read_sig) Tryd.func32
 rw [F_part_Read_text] at h
 exact h
theorem F_sets_wrong_sound {T:Tab}:SoundFn Tryd.prog T 62 F_sets_wrong_sig ⟨F_sets_wrong⟩:=by
 have h:=fn_sound (T:=T) (E:=F_sets_wrong_env) (by unfold Env.ok;exact fun p h=>by cases h) (A:=F_sets_wrong_ann) (f:=62) (fn:=Tryd.f62) (s:=F_sets_wrong_sig) Tryd.func62
 rw [F_sets_wrong_text] at h
 exact h
theorem F_sets_Apply_sound {T:Tab}:SoundFn Tryd.prog T 50 F_sets_Apply_sig ⟨F_sets_Apply⟩:=by
 have h:=fn_sound (T:=T) (E:=F_sets_Apply_env) (by unfold Env.ok;exact List.forall_mem_cons.2 ⟨F_sets_wrong_sound,fun p h=>by cases h⟩) (A:=F_sets_Apply_ann) (f:=50) (fn:=Tryd.f50) (s:=F_sets_Apply_sig) Tryd.func50
 rw [F_sets_Apply_text] at h
 exact h
theorem F_watch_Watch_applies_sound {T:Tab}:SoundFn Tryd.prog T 34 F_watch_Watch_applies_sig ⟨F_watch_Watch_applies⟩:=by
 have h:=fn_soundT (T:=T) (E:=F_watch_Watch_applies_env) (by unfold Env.ok;exact List.forall_mem_cons.2 ⟨F_sets_Apply_sound,fun p h=>by cases h⟩) (r:=7) (h:=apTail) (A:=F_watch_Watch_applies_ann) (f:=34) (fn:=Tryd.f34) (s:=F_watch_Watch_applies_sig) Tryd.func34 F_watch_Watch_applies_hand
 rw [F_watch_Watch_applies_text] at h
 exact h
theorem F_watch_Watch_live_sound {T:Tab}:SoundFn Tryd.prog T 52 F_watch_Watch_live_sig ⟨F_watch_Watch_live⟩:=by
 have h:=fn_sound (T:=T) (E:=F_watch_Watch_live_env) (by unfold Env.ok;exact fun p h=>by cases h) (A:=F_watch_Watch_live_ann) (f:=52) (fn:=Tryd.f52) (s:=F_watch_Watch_live_sig) Tryd.func52
 rw [F_watch_Watch_live_text] at h
 exact h
theorem F_pint_ones_sound {T:Tab}:SoundFn Tryd.prog T 78 F_pint_ones_sig ⟨F_pint_ones⟩:=by
 have h:=fn_sound (T:=T) (E:=F_pint_ones_env) (by unfold Env.ok;exact fun p h=>by cases h) (A:=F_pint_ones_ann) (f:=78) (fn:=Tryd.f78) (s:=F_pint_ones_sig) Tryd.func78
 rw [F_pint_ones_text] at h
 exact h
theorem F_pint_Get_sound {T:Tab}:SoundFn Tryd.prog T 74 F_pint_Get_sig ⟨F_pint_Get⟩:=by
 have h:=fn_sound (T:=T) (E:=F_pint_Get_env) (by unfold Env.ok;exact List.forall_mem_cons.2 ⟨F_pint_ones_sound,fun p h=>by cases h⟩) (A:=F_pint_Get_ann) (f:=74) (fn:=Tryd.f74) (s:=F_pint_Get_sig) Tryd.func74
 rw [F_pint_Get_text] at h
 exact h
theorem F_unpack_block_number_sound {T:Tab}:SoundFn Tryd.prog T 69 F_unpack_block_number_sig ⟨F_unpack_block_number⟩:=by
 have h:=fn_sound (T:=T) (E:=F_unpack_block_number_env) (by unfold Env.ok;exact List.forall_mem_cons.2 ⟨F_pint_Get_sound,fun p h=>by cases h⟩) (A:=F_unpack_block_number_ann) (f:=69) (fn:=Tryd.f69) (s:=F_unpack_block_number_sig) Tryd.func69
 rw [F_unpack_block_number_text] at h
 exact h
theorem F_internal_stringslite_Cut_sound {T:Tab}:SoundFn Tryd.prog T 85 F_internal_stringslite_Cut_sig ⟨F_internal_stringslite_Cut⟩:=by
 have h:=fn_sound (T:=T) (E:=F_internal_stringslite_Cut_env) (by unfold Env.ok;exact List.forall_mem_cons.2 ⟨F_internal_stringslite_Index_sound,fun p h=>by cases h⟩) (A:=F_internal_stringslite_Cut_ann) (f:=85) (fn:=Tryd.f85) (s:=F_internal_stringslite_Cut_sig) Tryd.func85
 rw [F_internal_stringslite_Cut_text] at h
 exact h
theorem F_strings_Cut_sound {T:Tab}:SoundFn Tryd.prog T 82 F_strings_Cut_sig ⟨F_strings_Cut⟩:=by
 have h:=fn_sound (T:=T) (E:=F_strings_Cut_env) (by unfold Env.ok;exact List.forall_mem_cons.2 ⟨F_internal_stringslite_Cut_sound,fun p h=>by cases h⟩) (A:=F_strings_Cut_ann) (f:=82) (fn:=Tryd.f82) (s:=F_strings_Cut_sig) Tryd.func82
 rw [F_strings_Cut_text] at h
 exact h
theorem F_stat_split_sound {T:Tab}:SoundFn Tryd.prog T 79 F_stat_split_sig ⟨F_stat_split⟩:=by
 have h:=fn_sound (T:=T) (E:=F_stat_split_env) (by unfold Env.ok;exact List.forall_mem_cons.2 ⟨F_strings_Cut_sound,fun p h=>by cases h⟩) (A:=F_stat_split_ann) (f:=79) (fn:=Tryd.f79) (s:=F_stat_split_sig) Tryd.func79
 rw [F_stat_split_text] at h
 exact h
theorem F_stat_Get_sound {T:Tab} (h_maxlen:has_maxlen T):SoundFn Tryd.prog T 75 F_stat_Get_sig ⟨F_stat_Get⟩:=by
 have h:=fn_sound (T:=T) (E:=F_stat_Get_env) (by unfold Env.ok;exact List.forall_mem_cons.2 ⟨F_stat_split_sound,List.forall_mem_cons.2 ⟨F_strings_Split_sound h_maxlen,fun p h=>by cases h⟩⟩) (A:=F_stat_Get_ann) (f:=75) (fn:=Tryd.f75) (s:=F_stat_Get_sig) Tryd.func75
 rw [F_stat_Get_text] at h
 exact h
theorem F_dyn_Table_Get_sound {T:Tab}:SoundFn Tryd.prog T 76 F_dyn_Table_Get_sig ⟨F_dyn_Table_Get⟩:=by
 have h:=fn_sound (T:=T) (E:=F_dyn_Table_Get_env) (by unfold Env.ok;exact fun p h=>by cases h) (A:=F_dyn_Table_Get_ann) (f:=76) (fn:=Tryd.f76) (s:=F_dyn_Table_Get_sig) Tryd.func76
 rw [F_dyn_Table_Get_text] at h
 exact h
theorem F_unpack_block_at_sound {T:Tab} (h_maxlen:has_maxlen T):SoundFn Tryd.prog T 70 F_unpack_block_at_sig ⟨F_unpack_block_at⟩:=by
 have h:=fn_sound (T:=T) (E:=F_unpack_block_at_env) (by unfold Env.ok;exact List.forall_mem_cons.2 ⟨F_stat_Get_sound h_maxlen,List.forall_mem_cons.2 ⟨F_dyn_Table_Get_sound,fun p h=>by cases h⟩⟩) (A:=F_unpack_block_at_ann) (f:=70) (fn:=Tryd.f70) (s:=F_unpack_block_at_sig) Tryd.func70
 rw [F_unpack_block_at_text] at h
 exact h
theorem F_unpack_block_text_sound {T:Tab}:SoundFn Tryd.prog T 73 F_unpack_block_text_sig ⟨F_unpack_block_text⟩:=by
 have h:=fn_sound (T:=T) (E:=F_unpack_block_text_env) (by unfold Env.ok;exact List.forall_mem_cons.2 ⟨F_unpack_block_number_sound,fun p h=>by cases h⟩) (A:=F_unpack_block_text_ann) (f:=73) (fn:=Tryd.f73) (s:=F_unpack_block_text_sig) Tryd.func73
 rw [F_unpack_block_text_text] at h
 exact h
theorem F_unpack_block_literal_sound {T:Tab} (h_maxlen:has_maxlen T):SoundFn Tryd.prog T 68 F_unpack_block_literal_sig ⟨F_unpack_block_literal⟩:=by
 have h:=fn_sound (T:=T) (E:=F_unpack_block_literal_env) (by unfold Env.ok;exact List.forall_mem_cons.2 ⟨F_unpack_block_number_sound,List.forall_mem_cons.2 ⟨F_unpack_block_at_sound h_maxlen,List.forall_mem_cons.2 ⟨F_unpack_block_text_sound,fun p h=>by cases h⟩⟩⟩) (A:=F_unpack_block_literal_ann) (f:=68) (fn:=Tryd.f68) (s:=F_unpack_block_literal_sig) Tryd.func68
 rw [F_unpack_block_literal_text] at h
 exact h
theorem F_dyn_Table_Add_sound {T:Tab}:SoundFn Tryd.prog T 71 F_dyn_Table_Add_sig ⟨F_dyn_Table_Add⟩:=by
 have h:=fn_sound (T:=T) (E:=F_dyn_Table_Add_env) (by unfold Env.ok;exact List.forall_mem_cons.2 ⟨F_dyn_Table_shrinks_sound,List.forall_mem_cons.2 ⟨F_stat_Size_sound,fun p h=>by cases h⟩⟩) (A:=F_dyn_Table_Add_ann) (f:=71) (fn:=Tryd.f71) (s:=F_dyn_Table_Add_sig) Tryd.func71
 rw [F_dyn_Table_Add_text] at h
 exact h
theorem F_unpack_block_keep_sound {T:Tab}:SoundFn Tryd.prog T 72 F_unpack_block_keep_sig ⟨F_unpack_block_keep⟩:=by
 have h:=fn_sound (T:=T) (E:=F_unpack_block_keep_env) (by unfold Env.ok;exact List.forall_mem_cons.2 ⟨F_stat_Size_sound,fun p h=>by cases h⟩) (A:=F_unpack_block_keep_ann) (f:=72) (fn:=Tryd.f72) (s:=F_unpack_block_keep_sig) Tryd.func72
 rw [F_unpack_block_keep_text] at h
 exact h
theorem F_unpack_block_read_sound {T:Tab} (h_maxlen:has_maxlen T):SoundFn Tryd.prog T 64 F_unpack_block_read_sig ⟨F_unpack_block_read⟩:=by
 have h:=fn_sound (T:=T) (E:=F_unpack_block_read_env) (by unfold Env.ok;exact List.forall_mem_cons.2 ⟨F_dyn_Table_Limit_sound,List.forall_mem_cons.2 ⟨F_unpack_block_literal_sound h_maxlen,List.forall_mem_cons.2 ⟨F_unpack_block_number_sound,List.forall_mem_cons.2 ⟨F_unpack_block_at_sound h_maxlen,List.forall_mem_cons.2 ⟨F_dyn_Table_Add_sound,List.forall_mem_cons.2 ⟨F_unpack_block_keep_sound,fun p h=>by cases h⟩⟩⟩⟩⟩⟩) (A:=F_unpack_block_read_ann) (f:=64) (fn:=Tryd.f64) (s:=F_unpack_block_read_sig) Tryd.func64
 rw [F_unpack_block_read_text] at h
 exact h
theorem F_unpack_Dec_Decode_sound {T:Tab} (h_maxlen:has_maxlen T):SoundFn Tryd.prog T 53 F_unpack_Dec_Decode_sig ⟨F_unpack_Dec_Decode⟩:=by
 have h:=fn_sound (T:=T) (E:=F_unpack_Dec_Decode_env) (by unfold Env.ok;exact List.forall_mem_cons.2 ⟨F_slices_Clone_byte_byte_sound,List.forall_mem_cons.2 ⟨F_unpack_block_read_sound h_maxlen,fun p h=>by cases h⟩⟩) (A:=F_unpack_Dec_Decode_ann) (f:=53) (fn:=Tryd.f53) (s:=F_unpack_Dec_Decode_sig) Tryd.func53
 rw [F_unpack_Dec_Decode_text] at h
 exact h
theorem F_unpack_Dec_Table_sound {T:Tab}:SoundFn Tryd.prog T 54 F_unpack_Dec_Table_sig ⟨F_unpack_Dec_Table⟩:=by
 have h:=fn_sound (T:=T) (E:=F_unpack_Dec_Table_env) (by unfold Env.ok;exact fun p h=>by cases h) (A:=F_unpack_Dec_Table_ann) (f:=54) (fn:=Tryd.f54) (s:=F_unpack_Dec_Table_sig) Tryd.func54
 rw [F_unpack_Dec_Table_text] at h
 exact h
theorem F_dyn_Table_Most_sound {T:Tab}:SoundFn Tryd.prog T 55 F_dyn_Table_Most_sig ⟨F_dyn_Table_Most⟩:=by
 have h:=fn_sound (T:=T) (E:=F_dyn_Table_Most_env) (by unfold Env.ok;exact fun p h=>by cases h) (A:=F_dyn_Table_Most_ann) (f:=55) (fn:=Tryd.f55) (s:=F_dyn_Table_Most_sig) Tryd.func55
 rw [F_dyn_Table_Most_text] at h
 exact h
theorem F_watch_Watch_answers_sound {T:Tab} (h_maxlen:has_maxlen T):SoundFn Tryd.prog T 35 F_watch_Watch_answers_sig ⟨F_watch_Watch_answers⟩:=by
 have h:=fn_sound (T:=T) (E:=F_watch_Watch_answers_env) (by unfold Env.ok;exact List.forall_mem_cons.2 ⟨F_watch_Watch_live_sound,List.forall_mem_cons.2 ⟨F_unpack_Dec_Decode_sound h_maxlen,List.forall_mem_cons.2 ⟨F_unpack_Dec_Table_sound,List.forall_mem_cons.2 ⟨F_dyn_Table_Most_sound,fun p h=>by cases h⟩⟩⟩⟩) (A:=F_watch_Watch_answers_ann) (f:=35) (fn:=Tryd.f35) (s:=F_watch_Watch_answers_sig) Tryd.func35
 rw [F_watch_Watch_answers_text] at h
 exact h
theorem F_watch_Watch_sends_sound {T:Tab}:SoundFn Tryd.prog T 36 F_watch_Watch_sends_sig ⟨F_watch_Watch_sends⟩:=by
 have h:=fn_sound (T:=T) (E:=F_watch_Watch_sends_env) (by unfold Env.ok;exact List.forall_mem_cons.2 ⟨F_flow_Windows_sound,List.forall_mem_cons.2 ⟨F_flow_Conn_sound,List.forall_mem_cons.2 ⟨F_flow_Stream_sound,List.forall_mem_cons.2 ⟨F_watch_Watch_live_sound,List.forall_mem_cons.2 ⟨F_flow_Spend_sound,fun p h=>by cases h⟩⟩⟩⟩⟩) (A:=F_watch_Watch_sends_ann) (f:=36) (fn:=Tryd.f36) (s:=F_watch_Watch_sends_sig) Tryd.func36
 rw [F_watch_Watch_sends_text] at h
 exact h
theorem F_watch_Watch_right_sound {T:Tab} (h_maxlen:has_maxlen T):SoundFn Tryd.prog T 28 F_watch_Watch_right_sig ⟨F_watch_Watch_right⟩:=by
 have h:=fn_sound (T:=T) (E:=F_watch_Watch_right_env) (by unfold Env.ok;exact List.forall_mem_cons.2 ⟨F_part_Read_sound,List.forall_mem_cons.2 ⟨F_watch_Watch_applies_sound,List.forall_mem_cons.2 ⟨F_watch_Watch_answers_sound h_maxlen,List.forall_mem_cons.2 ⟨F_watch_Watch_sends_sound,fun p h=>by cases h⟩⟩⟩⟩) (A:=F_watch_Watch_right_ann) (f:=28) (fn:=Tryd.f28) (s:=F_watch_Watch_right_sig) Tryd.func28
 rw [F_watch_Watch_right_text] at h
 exact h
theorem F_watch_Watch_Out_sound {T:Tab} (h_maxlen:has_maxlen T):SoundFn Tryd.prog T 12 F_watch_Watch_Out_sig ⟨F_watch_Watch_Out⟩:=by
 have h:=fn_sound (T:=T) (E:=F_watch_Watch_Out_env) (by unfold Env.ok;exact List.forall_mem_cons.2 ⟨F_frame_Parser_Feed_sound,List.forall_mem_cons.2 ⟨F_frame_Parser_Next_sound,List.forall_mem_cons.2 ⟨F_watch_Watch_right_sound h_maxlen,fun p h=>by cases h⟩⟩⟩) (A:=F_watch_Watch_Out_ann) (f:=12) (fn:=Tryd.f12) (s:=F_watch_Watch_Out_sig) Tryd.func12
 rw [F_watch_Watch_Out_text] at h
 exact h
theorem F_watch_Watch_Frames_sound {T:Tab}:SoundFn Tryd.prog T 13 F_watch_Watch_Frames_sig ⟨F_watch_Watch_Frames⟩:=by
 have h:=fn_sound (T:=T) (E:=F_watch_Watch_Frames_env) (by unfold Env.ok;exact fun p h=>by cases h) (A:=F_watch_Watch_Frames_ann) (f:=13) (fn:=Tryd.f13) (s:=F_watch_Watch_Frames_sig) Tryd.func13
 rw [F_watch_Watch_Frames_text] at h
 exact h
theorem F_wlvref10_Put_sound {T:Tab}:SoundFn Tryd.prog T 20 F_wlvref10_Put_sig ⟨F_wlvref10_Put⟩:=by
 have h:=fn_sound (T:=T) (E:=F_wlvref10_Put_env) (by unfold Env.ok;exact List.forall_mem_cons.2 ⟨F_wlvref10_num_sound,fun p h=>by cases h⟩) (A:=F_wlvref10_Put_ann) (f:=20) (fn:=Tryd.f20) (s:=F_wlvref10_Put_sig) Tryd.func20
 rw [F_wlvref10_Put_text] at h
 exact h
theorem F_wlvlaw27_first_sound {T:Tab} (h_maxlen:has_maxlen T):SoundFn Tryd.prog T 7 F_wlvlaw27_first_sig ⟨F_wlvlaw27_first⟩:=by
 have h:=fn_sound (T:=T) (E:=F_wlvlaw27_first_env) (by unfold Env.ok;exact List.forall_mem_cons.2 ⟨F_watch_New_sound,List.forall_mem_cons.2 ⟨F_wlvref10_Settings_sound,List.forall_mem_cons.2 ⟨F_watch_Watch_Out_sound h_maxlen,List.forall_mem_cons.2 ⟨F_watch_Watch_Frames_sound,List.forall_mem_cons.2 ⟨F_wlvref10_Put_sound,fun p h=>by cases h⟩⟩⟩⟩⟩) (A:=F_wlvlaw27_first_ann) (f:=7) (fn:=Tryd.f7) (s:=F_wlvlaw27_first_sig) Tryd.func7
 rw [F_wlvlaw27_first_text] at h
 exact h
theorem F_watch_Watch_granted_sound {T:Tab}:SoundFn Tryd.prog T 33 F_watch_Watch_granted_sig ⟨F_watch_Watch_granted⟩:=by
 have h:=fn_sound (T:=T) (E:=F_watch_Watch_granted_env) (by unfold Env.ok;exact List.forall_mem_cons.2 ⟨F_flow_Grant_sound,List.forall_mem_cons.2 ⟨F_flow_Windows_sound,List.forall_mem_cons.2 ⟨F_flow_Conn_sound,List.forall_mem_cons.2 ⟨F_flow_Stream_sound,fun p h=>by cases h⟩⟩⟩⟩) (A:=F_watch_Watch_granted_ann) (f:=33) (fn:=Tryd.f33) (s:=F_watch_Watch_granted_sig) Tryd.func33
 rw [F_watch_Watch_granted_text] at h
 exact h
theorem F_watch_Watch_hears_sound {T:Tab}:SoundFn Tryd.prog T 26 F_watch_Watch_hears_sig ⟨F_watch_Watch_hears⟩:=by
 have h:=fn_sound (T:=T) (E:=F_watch_Watch_hears_env) (by unfold Env.ok;exact List.forall_mem_cons.2 ⟨F_part_Read_sound,List.forall_mem_cons.2 ⟨F_watch_Watch_granted_sound,fun p h=>by cases h⟩⟩) (A:=F_watch_Watch_hears_ann) (f:=26) (fn:=Tryd.f26) (s:=F_watch_Watch_hears_sig) Tryd.func26
 rw [F_watch_Watch_hears_text] at h
 exact h
theorem F_watch_Watch_In_sound {T:Tab}:SoundFn Tryd.prog T 9 F_watch_Watch_In_sig ⟨F_watch_Watch_In⟩:=by
 have h:=fn_sound (T:=T) (E:=F_watch_Watch_In_env) (by unfold Env.ok;exact List.forall_mem_cons.2 ⟨F_frame_Parser_Feed_sound,List.forall_mem_cons.2 ⟨F_frame_Parser_Next_sound,List.forall_mem_cons.2 ⟨F_watch_Watch_hears_sound,fun p h=>by cases h⟩⟩⟩) (A:=F_watch_Watch_In_ann) (f:=9) (fn:=Tryd.f9) (s:=F_watch_Watch_In_sig) Tryd.func9
 rw [F_watch_Watch_In_text] at h
 exact h
theorem F_wlvlaw27_frames_sound {T:Tab}:SoundFn Tryd.prog T 10 F_wlvlaw27_frames_sig ⟨F_wlvlaw27_frames⟩:=by
 have h:=fn_sound (T:=T) (E:=F_wlvlaw27_frames_env) (by unfold Env.ok;exact List.forall_mem_cons.2 ⟨F_wlvref10_Put_sound,fun p h=>by cases h⟩) (A:=F_wlvlaw27_frames_ann) (f:=10) (fn:=Tryd.f10) (s:=F_wlvlaw27_frames_sig) Tryd.func10
 rw [F_wlvlaw27_frames_text] at h
 exact h
theorem F_wlvref10_Goaway_sound {T:Tab}:SoundFn Tryd.prog T 14 F_wlvref10_Goaway_sig ⟨F_wlvref10_Goaway⟩:=by
 have h:=fn_sound (T:=T) (E:=F_wlvref10_Goaway_env) (by unfold Env.ok;exact List.forall_mem_cons.2 ⟨F_wlvref10_num_sound,fun p h=>by cases h⟩) (A:=F_wlvref10_Goaway_ann) (f:=14) (fn:=Tryd.f14) (s:=F_wlvref10_Goaway_sig) Tryd.func14
 rw [F_wlvref10_Goaway_text] at h
 exact h
theorem F_wlvref10_Rst_sound {T:Tab}:SoundFn Tryd.prog T 15 F_wlvref10_Rst_sig ⟨F_wlvref10_Rst⟩:=by
 have h:=fn_sound (T:=T) (E:=F_wlvref10_Rst_env) (by unfold Env.ok;exact List.forall_mem_cons.2 ⟨F_wlvref10_num_sound,fun p h=>by cases h⟩) (A:=F_wlvref10_Rst_ann) (f:=15) (fn:=Tryd.f15) (s:=F_wlvref10_Rst_sig) Tryd.func15
 rw [F_wlvref10_Rst_text] at h
 exact h
theorem F_wlvref10_Update_sound {T:Tab}:SoundFn Tryd.prog T 16 F_wlvref10_Update_sig ⟨F_wlvref10_Update⟩:=by
 have h:=fn_sound (T:=T) (E:=F_wlvref10_Update_env) (by unfold Env.ok;exact List.forall_mem_cons.2 ⟨F_wlvref10_num_sound,fun p h=>by cases h⟩) (A:=F_wlvref10_Update_ann) (f:=16) (fn:=Tryd.f16) (s:=F_wlvref10_Update_sig) Tryd.func16
 rw [F_wlvref10_Update_text] at h
 exact h
theorem F_wlvlaw27_WatchFinds_sound {T:Tab} (h_maxlen:has_maxlen T):SoundFn Tryd.prog T 3 F_wlvlaw27_WatchFinds_sig ⟨F_wlvlaw27_WatchFinds⟩:=by
 have h:=fn_sound (T:=T) (E:=F_wlvlaw27_WatchFinds_env) (by unfold Env.ok;exact List.forall_mem_cons.2 ⟨F_wlvlaw27_first_sound h_maxlen,List.forall_mem_cons.2 ⟨F_watch_New_sound,List.forall_mem_cons.2 ⟨F_watch_Watch_In_sound,List.forall_mem_cons.2 ⟨F_wlvlaw27_frames_sound,List.forall_mem_cons.2 ⟨F_wlvref10_Settings_sound,List.forall_mem_cons.2 ⟨F_watch_Watch_Out_sound h_maxlen,List.forall_mem_cons.2 ⟨F_watch_Watch_Frames_sound,List.forall_mem_cons.2 ⟨F_wlvref10_Goaway_sound,List.forall_mem_cons.2 ⟨F_wlvref10_Rst_sound,List.forall_mem_cons.2 ⟨F_wlvref10_Update_sound,fun p h=>by cases h⟩⟩⟩⟩⟩⟩⟩⟩⟩⟩) (A:=F_wlvlaw27_WatchFinds_ann) (f:=3) (fn:=Tryd.f3) (s:=F_wlvlaw27_WatchFinds_sig) Tryd.func3
 rw [F_wlvlaw27_WatchFinds_text] at h
 exact h
end Go.Proofs.YtifbhefbhlbofaaDoor
namespace Go.Proofs.YtifbhefbhlbofaaDoor
namespace Pv
set_option linter.unusedVariables false
section
variable {S R T : Type} {body : S -> Option (R ⊕ S)} {s s' : S} {r r' : R}
theorem iter_uniq:∀ {n m:Nat} {s:S},iterC body n s=some r->iterC body m s=some r'->r=r'
 | 0,_,_,h,_=>by cases h
 | _+1,0,_,_,h=>by cases h
 | n+1,m+1,s,h,k=>by
  unfold iterC at h k
  split at h
  ·cases h
  ·rename_i x hx
   rw [hx] at k
   injection h with h;injection k with k
   exact h.symm.trans k
  ·rename_i x hx
   rw [hx] at k
   exact iter_uniq h k
theorem loop_of_iter {n:Nat} (h:iterC body n s=some r):loopC body s=some r:=by
 unfold loopC
 have hex:∃ r n,iterC body n s=some r:=⟨r,n,h⟩
 rw [dif_pos hex]
 obtain ⟨m,hm⟩:=hex.choose_spec
 rw [iter_uniq hm h]
theorem iter_of_loop' (h:loopC body s=some r):∃ n,iterC body n s=some r:=by
 unfold loopC at h
 split at h
 ·rename_i hex
  injection h with h
  obtain ⟨n,hn⟩:=hex.choose_spec
  exact ⟨n,by rw [hn,h]⟩
 ·cases h
theorem loop_inl (h:body s=some (.inl r)):loopC body s=some r:=loop_of_iter (n:=1) (by unfold iterC;rw [h])
theorem loop_inr (h:body s=some (.inr s')) (k:loopC body s'=some r):loopC body s=some r:=by
 obtain ⟨n,hn⟩:=iter_of_loop' k
 exact loop_of_iter (n:=n+1) (by unfold iterC;rw [h];exact hn)
theorem join_inl {A:Option (R⊕S)} {B:S->Option R} (h:A=some (.inl r)):joinC A B=some r:=by rw [h];rfl
theorem join_inr {A:Option (R⊕S)} {B:S->Option R} (h:A=some (.inr s)):joinC A B=B s:=by rw [h];rfl
theorem getI_of {α:Type} {l:List α} {j:Int} (h0:0<=j) (h1:j < l.length):∃ x,getI l j=some x /\ l[j.toNat]? = some x:=by
 have hlt:j.toNat < l.length:=by omega
 exact ⟨l[j.toNat],by unfold getI;rw [decide_eq_true h0];simp [hlt],by simp [hlt]⟩
end
end Pv
end Go.Proofs.YtifbhefbhlbofaaDoor
namespace Go.Proofs.YtifbhefbhlbofaaDoor
open Pv
set_option linter.unusedVariables false
theorem wB64 {x:Int} (h0 : -4611686018427387904<=x) (h1:x<=4611686018427387904):IntKind.i64.wrap x=x:=by
 show (if (true&&decide (x % 18446744073709551616 >= 9223372036854775808))=true then x % 18446744073709551616 - 18446744073709551616 else x % 18446744073709551616)=x
 simp only [Bool.true_and,decide_eq_true_eq]
 split <;> omega
theorem e40:(2:Int) ^ 40=1099511627776:=by decide
theorem w40:∀ n:Int,0<=n->n < 2 ^ 40->IntKind.i64.wrap n=n:=fun n h0 h1=>wB64 (by omega) (by rw [e40] at h1;omega)
theorem or8 {x y:Int} (hx:0<=x) (hx1:x < 1099511627776) (hm:x % 256=0) (hy:0<=y) (hy1:y < 256):bits .or .i64 x y=x+y:=
 bits_join .i64 40 (by decide) w40 8 x y hx hm (by rw [e40];exact hx1) hy hy1 (by rw [e40];omega)
theorem or16 {x y:Int} (hx:0<=x) (hx1:x < 1099511627776) (hm:x % 65536=0) (hy:0<=y) (hy1:y < 65536):bits .or .i64 x y=x+y:=
 bits_join .i64 40 (by decide) w40 16 x y hx hm (by rw [e40];exact hx1) hy hy1 (by rw [e40];omega)
theorem or24 {x y:Int} (hx:0<=x) (hx1:x < 1099511627776) (hm:x % 16777216=0) (hy:0<=y) (hy1:y < 16777216):bits .or .i64 x y=x+y:=
 bits_join .i64 40 (by decide) w40 24 x y hx hm (by rw [e40];exact hx1) hy hy1 (by rw [e40];omega)
theorem and31 {x:Int} (hx:0<=x) (hx1:x < 1099511627776):bits .and .i64 x 2147483647=x % 2147483648:=bits_mask .i64 40 (by decide) w40 31 (by decide) x hx (by rw [e40];exact hx1)
theorem num3 {a b c:Int} (ha:0<=a /\ a < 256) (hb:0<=b /\ b < 256) (hc:0<=c /\ c < 256) :
  bits .or .i64 (bits .or .i64 (IntKind.i64.wrap ((IntKind.i64.wrap a)*2 ^ 16)) (IntKind.i64.wrap ((IntKind.i64.wrap b)*2 ^ 8))) (IntKind.i64.wrap c)=a*65536+b*256+c:=by
 have e16:(2:Int) ^ 16=65536:=by decide
 have e8:(2:Int) ^ 8=256:=by decide
 rw [e16,e8,wB64 (x:=a) (by omega) (by omega),wB64 (x:=b) (by omega) (by omega),wB64 (x:=c) (by omega) (by omega),wB64 (x:=a*65536) (by omega) (by omega),wB64 (x:=b*256) (by omega) (by omega),
  or16 (x:=a*65536) (y:=b*256) (by omega) (by omega) (by omega) (by omega) (by omega),or8 (by omega) (by omega) (by omega) (by omega) (by omega)]
theorem num4 {a b c d:Int} (ha:0<=a /\ a < 256) (hb:0<=b /\ b < 256) (hc:0<=c /\ c < 256) (hd:0<=d /\ d < 256) :
  bits .or .i64 (bits .or .i64 (bits .or .i64 (IntKind.i64.wrap ((IntKind.i64.wrap a)*2 ^ 24)) (IntKind.i64.wrap ((IntKind.i64.wrap b)*2 ^ 16))) (IntKind.i64.wrap ((IntKind.i64.wrap c)*2 ^ 8))) (IntKind.i64.wrap d)=a*16777216+b*65536+c*256+d:=by
 have e24:(2:Int) ^ 24=16777216:=by decide
 have e16:(2:Int) ^ 16=65536:=by decide
 have e8:(2:Int) ^ 8=256:=by decide
 rw [e24,e16,e8,wB64 (x:=a) (by omega) (by omega),wB64 (x:=b) (by omega) (by omega),wB64 (x:=c) (by omega) (by omega),wB64 (x:=d) (by omega) (by omega),wB64 (x:=a*16777216) (by omega) (by omega),wB64 (x:=b*65536) (by omega) (by omega),wB64 (x:=c*256) (by omega) (by omega),
  or24 (x:=a*16777216) (y:=b*65536) (by omega) (by omega) (by omega) (by omega) (by omega),or16 (y:=c*256) (by omega) (by omega) (by omega) (by omega) (by omega),or8 (by omega) (by omega) (by omega) (by omega) (by omega)]
def hd9 (n k fl s:Int):List Int:=[n / 65536,n / 256 % 256,n % 256,k,fl,s / 16777216,s / 65536 % 256,s / 256 % 256,s % 256]
def fb (k fl s:Int) (body:List Int):List Int:=hd9 (body.length:Int) k fl s++body
theorem fb_len (k fl s:Int) (body:List Int):(fb k fl s body).length=9+body.length:=by
 unfold fb
 rw [List.length_append];rfl
def okFb (k fl s:Int) (body:List Int):Prop:=(0<=k /\ k < 256) /\ (0<=fl /\ fl < 256) /\ (0<=s /\ s<=2147483647) /\ body.length<=16384
theorem cutI_mid {α:Type} (a b c:List α) {m n:Int} (hm:m=(a.length:Int)) (hn:n=((a.length+b.length:Nat):Int)):cutI (a++b++c) m n=some b:=by
 subst hm;subst hn
 unfold cutI
 rw [decide_eq_true (by omega),decide_eq_true (by omega),decide_eq_true (by simp only [List.length_append];omega)]
 simp only [Bool.and_self,cond_true]
 rw [Int.toNat_natCast,Int.toNat_natCast,show a.length+b.length=(a++b).length by rw [List.length_append],List.take_left,List.drop_left]
theorem cutI_end {α:Type} (a b:List α) {m n:Int} (hm:m=(a.length:Int)) (hn:n=((a++b).length:Int)):cutI (a++b) m n=some b:=by
 have:=cutI_mid a b [] (m:=m) (n:=n) hm (by rw [hn,List.length_append])
 rwa [List.append_nil] at this
variable {p : Int} {Ps : List (Int × List Int)}
theorem next_fb {k fl s:Int} {body rest:List Int} (hp:nnI p=true) (hok:okFb k fl s body) (hg:getI Ps p=some (16384,fb k fl s body++rest)) (hr:rest.length<=1000000000) :
  F_frame_Parser_Next p Ps=some (k,fl,s,body,0,Ps.set p.toNat (16384,rest)):=by
 obtain ⟨hk,hfl,hs,hb⟩:=hok
 obtain ⟨n,hn⟩:∃ n:Int,(body.length:Int)=n:=⟨_,rfl⟩
 have hn0:0<=n /\ n<=16384:=by omega
 have hX:fb k fl s body++rest=hd9 n k fl s++body++rest:=by unfold fb;rw [hn]
 have hlen:((fb k fl s body++rest).length:Int)=9+n+(rest.length:Int):=by rw [List.length_append,fb_len];omega
 have g0:getI (fb k fl s body++rest) 0=some (n / 65536):=by rw [hX];rfl
 have g1:getI (fb k fl s body++rest) 1=some (n / 256 % 256):=by rw [hX];rfl
 have g2:getI (fb k fl s body++rest) 2=some (n % 256):=by rw [hX];rfl
 have g3:getI (fb k fl s body++rest) 3=some k:=by rw [hX];rfl
 have g4:getI (fb k fl s body++rest) 4=some fl:=by rw [hX];rfl
 have g5:getI (fb k fl s body++rest) 5=some (s / 16777216):=by rw [hX];rfl
 have g6:getI (fb k fl s body++rest) 6=some (s / 65536 % 256):=by rw [hX];rfl
 have g7:getI (fb k fl s body++rest) 7=some (s / 256 % 256):=by rw [hX];rfl
 have g8:getI (fb k fl s body++rest) 8=some (s % 256):=by rw [hX];rfl
 have h3:bits .or .i64 (bits .or .i64 (IntKind.i64.wrap ((IntKind.i64.wrap (n / 65536))*2 ^ 16)) (IntKind.i64.wrap ((IntKind.i64.wrap (n / 256 % 256))*2 ^ 8))) (IntKind.i64.wrap (n % 256))=n:=by
  rw [num3 (by omega) (by omega) (by omega)];omega
 have h4:bits .and .i64 (bits .or .i64 (bits .or .i64 (bits .or .i64 (IntKind.i64.wrap ((IntKind.i64.wrap (s / 16777216))*2 ^ 24)) (IntKind.i64.wrap ((IntKind.i64.wrap (s / 65536 % 256))*2 ^ 16))) (IntKind.i64.wrap ((IntKind.i64.wrap (s / 256 % 256))*2 ^ 8))) (IntKind.i64.wrap (s % 256))) 2147483647=s:=by
  rw [num4 (by omega) (by omega) (by omega) (by omega),show s / 16777216*16777216+s / 65536 % 256*65536+s / 256 % 256*256+s % 256=s by omega,and31 (by omega) (by omega)]
  omega
 have hc:cutI (fb k fl s body++rest) 9 (9+n)=some body:=by
  rw [hX]
  exact cutI_mid _ _ _ rfl (by show 9+n=((9+body.length:Nat):Int);omega)
 have hc2:cutI (fb k fl s body++rest) (9+n) (9+n+(rest.length:Int))=some rest:=by
  refine cutI_end _ _ ?_ ?_
  ·rw [fb_len];omega
  ·rw [List.length_append,fb_len];omega
 unfold F_frame_Parser_Next
 refine join_inl ?_
 unfold chk
 simp only [hp,cond_true,hg,Option.bind_some,hlen,g0,g1,g2,g3,g4,g5,g6,g7,g8,h3,h4]
 rw [decide_eq_false (show ¬ 9+n+(rest.length:Int) < 9 by omega),cond_false,decide_eq_false (show ¬ n > 16384 by omega),cond_false,wB64 (x:=9+n+(rest.length:Int) - 9) (by omega) (by omega),decide_eq_false (show ¬ 9+n+(rest.length:Int) - 9 < n by omega),cond_false,wB64 (x:=9+n) (by omega) (by omega),hc,Option.bind_some]
 unfold F_bytes_Clone
 rw [Nat.ble_eq_true_of_le (show body.length<=100000000 by omega),cond_true,Option.bind_some,hc2,Option.bind_some,wB64 (x:=fl) (by omega) (by omega),wB64 (x:=k) (by omega) (by omega)]
theorem next_short {X:List Int} (hp:nnI p=true) (hg:getI Ps p=some (16384,X)) (hX:X.length < 9):F_frame_Parser_Next p Ps=some (0,0,0,[],4,Ps):=by
 unfold F_frame_Parser_Next
 refine (join_inr (s:=(0,(0,0,0,[],Ps))) ?_).trans ?_
 ·unfold chk
  rw [hp,cond_true,hg,Option.bind_some]
  dsimp only
  rw [decide_eq_true (by omega),cond_true]
 ·refine loop_inl ?_
  unfold F_frame_Parser_Next_G1 F_frame_Parser_Next_G1_0
  rfl
theorem feed_at {room:Int} {X Y:List Int} (hp:nnI p=true) (hg:getI Ps p=some (room,X)) (hl:X.length+Y.length<=100000000):F_frame_Parser_Feed p Y Ps=some (Ps.set p.toNat (room,X++Y)):=by
 unfold F_frame_Parser_Feed chk F_slices_Concat_byte_byte
 have e:([X,Y]:List (List Int)).flatten=X++Y:=by simp
 simp only [hp,cond_true,hg,Option.bind_some,e]
 rw [Nat.ble_eq_true_of_le (show (X++Y).length<=100000000 by rw [List.length_append];exact hl),Nat.ble_eq_true_of_le (show ([X,Y]:List (List Int)).length<=100000000 by simp)]
 rfl
end Go.Proofs.YtifbhefbhlbofaaDoor
namespace Go.Proofs.YtifbhefbhlbofaaDoor
namespace Vc
open Ieee
theorem log2_mul {m:Nat} (hm:m≠0) (k:Nat):(m*2 ^ k).log2=m.log2+k:=by
 have h:=(Nat.log2_eq_iff hm).1 rfl
 have hp:0 < 2 ^ k:=Nat.two_pow_pos k
 rw [Nat.log2_eq_iff (by have:=Nat.mul_pos (Nat.pos_of_ne_zero hm) hp;omega)]
 rw [Nat.pow_add,show m.log2+k+1=(m.log2+1)+k by omega,Nat.pow_add]
 exact ⟨Nat.mul_le_mul_right _ h.1,Nat.mul_lt_mul_of_pos_right h.2 hp⟩
theorem log2_lt {m:Nat} (h:m < 2 ^ 53):m.log2<=52:=by
 by_cases hm:m=0
 ·subst hm;decide
 ·have h1:=(Nat.log2_eq_iff hm).1 rfl
  rcases Nat.lt_or_ge 52 m.log2 with h2 | h2
  ·have:2 ^ 53<=2 ^ m.log2:=Nat.pow_le_pow_right (by decide) h2
   omega
  ·exact h2
theorem cut_exact (way:Toward) (neg:Bool) (q d:Nat) (hw:way=.even \/ way=.zero):way.cut neg (q*2 ^ d) d=q:=by
 by_cases hq:q=0
 ·subst hq
  have hg:0 < 1 <<< min d ((0*2 ^ d).log2+2):=by rw [Nat.shiftLeft_eq,Nat.one_mul];exact Nat.two_pow_pos _
  unfold Toward.cut
  simp only [Nat.zero_mul,Nat.zero_div,Nat.zero_mod] at hg ⊢
  rcases hw with rfl | rfl
  ·simp
  ·simp
 ·have hl:=log2_mul hq d
  unfold Toward.cut
  rw [hl,show min d (q.log2+d+2)=d by omega,Nat.shiftLeft_eq,Nat.one_mul]
  dsimp only
  rw [Nat.mul_div_cancel _ (Nat.two_pow_pos d),Nat.mul_mod_left]
  have:2 ^ d≠0:=Nat.ne_of_gt (Nat.two_pow_pos d)
  rcases hw with rfl | rfl
  ·simp
  ·simp
def fw (neg:Bool) (m:Nat):Nat:=if m=0 then double.word neg 0 else double.word neg ((m.log2+1022)*2 ^ 52+m*2 ^ (52 - m.log2))
theorem near (neg:Bool) {m:Nat} (h:m < 2 ^ 53) (k:Nat):double.nearest neg (m*2 ^ k) (-(k:Int))=fw neg m:=by
  have hL:=log2_lt h
  by_cases hm:m=0
  · subst hm;simp [Format.nearest,fw]
  · have hk:m*2 ^ k≠0:=by have:=Nat.mul_pos (Nat.pos_of_ne_zero hm) (Nat.two_pow_pos k);omega
    have hlog:=log2_mul hm k
    have hb:=(Nat.log2_eq_iff hm).1 rfl
    have hle:double.leastPlace = -1074:=by decide
    have hf:double.fractionBits=52:=rfl
    unfold Format.nearest fw
    rw [if_neg hk,if_neg hm,hlog,hle,hf]
    have hlast:max (-(k:Int)+((m.log2+k:Nat):Int) - ((52:Nat):Int)) (-1074)=(m.log2:Int) - 52:=by omega
    simp only [hlast]
    have hkept:Toward.even.cut neg ((m*2 ^ k) <<< (-(k:Int) - ((m.log2:Int) - 52)).toNat) ((m.log2:Int) - 52 - -(k:Int)).toNat=m*2 ^ (52 - m.log2):=by
      by_cases hc:k<=52 - m.log2
      · rw [show (-(k : Int) - ((m.log2 : Int) - 52)).toNat = 52 - m.log2 - k by omega, show ((m.log2 : Int) - 52 - -(k : Int)).toNat = 0 by omega, Nat.shiftLeft_eq, Nat.mul_assoc, <- Nat.pow_add,
          show k+(52 - m.log2 - k)=52 - m.log2 by omega]
        have:=cut_exact .even neg (m*2 ^ (52 - m.log2)) 0 (.inl rfl)
        rwa [Nat.pow_zero,Nat.mul_one] at this
      · rw [show (-(k:Int) - ((m.log2:Int) - 52)).toNat=0 by omega,show ((m.log2:Int) - 52 - -(k:Int)).toNat=k - (52 - m.log2) by omega,Nat.shiftLeft_eq,Nat.pow_zero,Nat.mul_one]
        have:=cut_exact .even neg (m*2 ^ (52 - m.log2)) (k - (52 - m.log2)) (.inl rfl)
        rwa [Nat.mul_assoc,<- Nat.pow_add,show 52 - m.log2+(k - (52 - m.log2))=k by omega] at this
    rw [hkept,show ((m.log2:Int) - 52 - -1074).toNat=m.log2+1022 by omega]
    have hbin:double.binade=2 ^ 52:=rfl
    have hinf:double.infRung=2047*2 ^ 52:=rfl
    rw [hbin,hinf]
    have hlt:m*2 ^ (52 - m.log2) < 2 ^ 53:=by
      have:=Nat.mul_lt_mul_of_pos_right hb.2 (Nat.two_pow_pos (52 - m.log2))
      rw [<-Nat.pow_add,show m.log2+1+(52 - m.log2)=53 by omega] at this
      exact this
    generalize m*2 ^ (52 - m.log2)=K at hlt ⊢
    rw [Nat.min_eq_left (by omega)]
def fl (n:Int):Nat:=FloatKind.f64.nearest n
theorem fl_fw {n:Int} (h:n.natAbs < 2 ^ 53):fl n=fw (decide (n < 0)) n.natAbs:=by
 have:=near (decide (n < 0)) h 0
 rw [Nat.pow_zero,Nat.mul_one] at this
 exact this
def Stands (d:Datum) (n:Int):Prop:=∃ k:Nat,d=.number (decide (n < 0)) (n.natAbs*2 ^ k) (-(k:Int))
theorem stands0:Stands (.number false 0 (-1074)) 0:=by
 refine ⟨1074,?_⟩
 generalize (2:Nat) ^ 1074=z
 rw [show Int.natAbs 0*z=0 from Nat.zero_mul z]
 rfl
theorem read_fl {n:Int} (h:n.natAbs < 2 ^ 53):Stands (double.read (fl n)) n:=by
 rw [fl_fw h]
 unfold fw
 by_cases hm:n.natAbs=0
 ·have:n=0:=by omega
  subst this
  have h2:double.read (double.word (decide ((0:Int) < 0)) 0)=.number false 0 (-1074):=by decide
  rw [if_pos hm,h2]
  exact stands0
 ·rw [if_neg hm]
  have hL:=log2_lt h
  have hb:=(Nat.log2_eq_iff hm).1 rfl
  have h1:2 ^ 52<=n.natAbs*2 ^ (52 - n.natAbs.log2):=by
   have:=Nat.mul_le_mul_right (2 ^ (52 - n.natAbs.log2)) hb.1
   rwa [<-Nat.pow_add,show n.natAbs.log2+(52 - n.natAbs.log2)=52 by omega] at this
  have h2:n.natAbs*2 ^ (52 - n.natAbs.log2) < 2 ^ 53:=by
   have:=Nat.mul_lt_mul_of_pos_right hb.2 (Nat.two_pow_pos (52 - n.natAbs.log2))
   rwa [<-Nat.pow_add,show n.natAbs.log2+1+(52 - n.natAbs.log2)=53 by omega] at this
  refine ⟨52 - n.natAbs.log2,?_⟩
  generalize hK:n.natAbs*2 ^ (52 - n.natAbs.log2)=K at h1 h2 ⊢
  generalize n.natAbs.log2=L at hL ⊢
  have hbin:double.binade=4503599627370496:=by decide
  have hinf:double.infRung=9218868437227405312:=by decide
  have hsw:double.signWeight=9223372036854775808:=by decide
  have hle:double.leastPlace = -1074:=by decide
  have w1:∀ neg:Bool,double.word neg ((L+1022)*2 ^ 52+K) / 9223372036854775808 % 2=neg.toNat /\ double.word neg ((L+1022)*2 ^ 52+K) % 9223372036854775808=(L+1022)*2 ^ 52+K:=fun neg=>by
   unfold Format.word
   rw [hsw]
   cases neg <;> simp <;> omega
  obtain ⟨a1,a2⟩:=w1 (decide (n < 0))
  unfold Format.read
  rw [hsw,hbin,hinf,hle,a1,a2]
  simp only
  rw [if_neg (by omega),if_pos (by omega)]
  congr 1
  ·cases decide (n < 0) <;> rfl
  ·omega
  ·omega
theorem signed_abs (n:Int) (k j:Nat):signed (decide (n < 0)) (n.natAbs*2 ^ k) j=n*2 ^ (k+j):=by
 unfold signed
 rw [Nat.shiftLeft_eq,Nat.mul_assoc,<- Nat.pow_add]
 by_cases h:n < 0
 ·simp only [h,decide_true,if_true]
  rw [Int.natCast_mul,Int.natCast_pow]
  have:(n.natAbs:Int) = -n:=by omega
  rw [this,Int.neg_mul,Int.neg_neg]
  rfl
 ·simp only [h,decide_false,Bool.false_eq_true,if_false]
  rw [Int.natCast_mul,Int.natCast_pow]
  have:(n.natAbs:Int)=n:=by omega
  rw [this]
  rfl
theorem base_eq (k l:Nat):min (-(k:Int)) (-(l:Int)) = -((max k l:Nat):Int):=by omega
theorem order_stands {d e:Datum} {a b:Int} (hd:Stands d a) (he:Stands e b):d.order e=some (compare a b):=by
 obtain ⟨k,rfl⟩:=hd
 obtain ⟨l,rfl⟩:=he
 unfold Datum.order
 simp only [base_eq]
 rw [show (-(k:Int) - -((max k l:Nat):Int)).toNat=max k l - k by omega,show (-(l:Int) - -((max k l:Nat):Int)).toNat=max k l - l by omega,signed_abs,signed_abs,
  show k+(max k l - k)=max k l by omega,show l+(max k l - l)=max k l by omega]
 have hp:(0:Int) < 2 ^ (max k l):=Int.pow_pos (by decide)
 congr 1
 simp only [compare,compareOfLessAndEq]
 have e1:a*2 ^ max k l < b*2 ^ max k l↔a < b:=⟨fun h=>Int.lt_of_mul_lt_mul_right h (Int.le_of_lt hp),fun h=>Int.mul_lt_mul_of_pos_right h hp⟩
 have e2:a*2 ^ max k l=b*2 ^ max k l↔a=b:=⟨fun h=>Int.eq_of_mul_eq_mul_right (by omega) h,fun h=>by rw [h]⟩
 simp only [e1,e2]
theorem toInt_stands {d:Datum} {a:Int} (hd:Stands d a):d.toInt .zero=some a:=by
 obtain ⟨k,rfl⟩:=hd
 unfold Datum.toInt Datum.integral
 simp only
 rw [show (-(k:Int)).toNat=0 by omega,show (- -(k:Int)).toNat=k by omega,Nat.shiftLeft_eq,Nat.pow_zero,Nat.mul_one,cut_exact .zero _ _ _ (.inr rfl)]
 have:=signed_abs a 0 0
 simp only [Nat.pow_zero,Nat.mul_one] at this
 rw [this]
 simp
theorem opp_stands {d:Datum} {b:Int} (hd:Stands d b) (hb:b≠0):Stands d.opposite (-b):=by
 obtain ⟨k,rfl⟩:=hd
 refine ⟨k,?_⟩
 unfold Datum.opposite
 simp only [Int.natAbs_neg]
 congr 1
 by_cases h:b < 0
 ·have h2:¬ (-b < 0):=by omega
  rw [decide_eq_true h,decide_eq_false h2];rfl
 ·have h2 : -b < 0:=by omega
  rw [decide_eq_false h,decide_eq_true h2];rfl
theorem sum_stands {d e:Datum} {a b:Int} (hd:Stands d a) (he:Stands e b) (h:(a+b).natAbs < 2 ^ 53):(d.sum e).map double.write=some (fl (a+b)):=by
 obtain ⟨k,rfl⟩:=hd
 obtain ⟨l,rfl⟩:=he
 unfold Datum.sum
 simp only [base_eq]
 rw [show (-(k:Int) - -((max k l:Nat):Int)).toNat=max k l - k by omega,show (-(l:Int) - -((max k l:Nat):Int)).toNat=max k l - l by omega,signed_abs,signed_abs,
  show k+(max k l - k)=max k l by omega,show l+(max k l - l)=max k l by omega,<- Int.add_mul]
 have hp:(0:Int) < 2 ^ (max k l):=Int.pow_pos (by decide)
 have hn:((a+b)*2 ^ max k l).natAbs=(a+b).natAbs*2 ^ max k l:=by rw [Int.natAbs_mul,Int.natAbs_pow];rfl
 have hz:(if (a+b)*2 ^ max k l=0 then (decide (a < 0)&&decide (b < 0)) else decide ((a+b)*2 ^ max k l < 0))=decide (a+b < 0):=by
  by_cases h0:a+b=0
  ·rw [h0,Int.zero_mul,if_pos rfl]
   by_cases ha:a < 0
   ·have:¬ b < 0:=by omega
    simp [this]
   ·simp [ha]
  ·have hne:(a+b)*2 ^ max k l≠0:=Int.mul_ne_zero h0 (by omega)
   rw [if_neg hne]
   have:(a+b)*2 ^ max k l < 0↔a+b < 0:=⟨fun hh=>Int.lt_of_mul_lt_mul_right (by rw [Int.zero_mul];exact hh) (Int.le_of_lt hp),fun hh=>Int.mul_neg_of_neg_of_pos hh hp⟩
   simp only [this]
 rw [hz,hn,Option.map_some]
 show some (double.nearest _ _ _)=_
 rw [near _ h,fl_fw h]
theorem fl_order {a b:Int} (ha:a.natAbs < 2 ^ 53) (hb:b.natAbs < 2 ^ 53):FloatKind.f64.format.order (fl a) (fl b)=some (compare a b):=order_stands (read_fl ha) (read_fl hb)
theorem fl_toInt {a:Int} (ha:a.natAbs < 2 ^ 53):(FloatKind.f64.decode (fl a)).toInt .zero=some a:=toInt_stands (read_fl ha)
theorem fl_sub {a b:Int} (ha:a.natAbs < 2 ^ 53) (hb:b.natAbs < 2 ^ 53) (h:(a - b).natAbs < 2 ^ 53):FloatKind.f64.format.sub (fl a) (fl b)=some (fl (a - b)):=by
  by_cases h0:b=0
  · subst h0
    rw [Int.sub_zero]
    have hd:=read_fl ha
    have he:double.read (fl 0)=.number false 0 (-1074):=by decide
    show ((double.read (fl a)).sum (double.read (fl 0)).opposite).map double.write=_
    rw [he]
    obtain ⟨k,hk⟩:=hd
    rw [hk]
    have key:=sum_stands (d:=.number (decide (a < 0)) (a.natAbs*2 ^ k) (-(k:Int))) (e:=.number false 0 (-1074)) (a:=a) (b:=0) ⟨k,rfl⟩ stands0 (by rw [Int.add_zero];exact ha)
    rw [Int.add_zero] at key
    rw [<-key]
    show (Datum.sum _ (Datum.number true 0 (-1074))).map double.write=_
    have hs:∀ (q:Bool) (x:Nat),signed q 0 x=0:=fun q x=>by unfold signed;rw [Nat.zero_shiftLeft];cases q <;> rfl
    unfold Datum.sum
    simp only [hs,Int.add_zero]
    by_cases hneg:a < 0
    · have hne : ∀ x : Nat, signed (decide (a < 0)) (a.natAbs * 2 ^ k) x ≠ 0 := fun x => by
        rw [signed_abs]
        exact Int.mul_ne_zero (by omega) (Int.ne_of_gt (Int.pow_pos (by decide)))
      rw [if_neg (hne _),if_neg (hne _)]
    · rw [decide_eq_false hneg]
      rfl
  · exact Eq.trans (sum_stands (read_fl ha) (opp_stands (read_fl hb) h0) (by rwa [<-Int.sub_eq_add_neg])) (by rw [<-Int.sub_eq_add_neg])
end Vc
end Go.Proofs.YtifbhefbhlbofaaDoor
namespace Go.Proofs.YtifbhefbhlbofaaDoor
open Pv
set_option linter.unusedVariables false
def InW (n:Int):Prop:=-2147483647<=n /\ n<=2147483647
theorem InW.abs {n:Int} (h:InW n):n.natAbs < 2 ^ 53:=by
 have h1:=h.1
 have h2:=h.2
 have:(2:Nat) ^ 53=9007199254740992:=by decide
 omega
theorem abs53 {n:Int} (h1 : -9000000000<=n) (h2:n<=9000000000):n.natAbs < 2 ^ 53:=by
 have:(2:Nat) ^ 53=9007199254740992:=by decide
 omega
theorem fgt_fl {a b:Int} (ha:a.natAbs < 2 ^ 53) (hb:b.natAbs < 2 ^ 53):fgt .f64 (Vc.fl a) (Vc.fl b)=decide (b < a):=by
 unfold fgt
 rw [Vc.fl_order ha hb]
 rcases Int.lt_trichotomy a b with h | h | h
 ·rw [Int.compare_eq_lt.2 h,decide_eq_false (by omega)];rfl
 ·rw [h,Int.compare_eq_eq.2 rfl,decide_eq_false (by omega)];rfl
 ·rw [Int.compare_eq_gt.2 h,decide_eq_true h];rfl
theorem flt_fl {a b:Int} (ha:a.natAbs < 2 ^ 53) (hb:b.natAbs < 2 ^ 53):flt .f64 (Vc.fl a) (Vc.fl b)=decide (a < b):=by
 unfold flt
 rw [Vc.fl_order ha hb]
 rcases Int.lt_trichotomy a b with h | h | h
 ·rw [Int.compare_eq_lt.2 h,decide_eq_true h];rfl
 ·rw [h,Int.compare_eq_eq.2 rfl,decide_eq_false (by omega)];rfl
 ·rw [Int.compare_eq_gt.2 h,decide_eq_false (by omega)];rfl
theorem feq_fl {a b:Int} (ha:a.natAbs < 2 ^ 53) (hb:b.natAbs < 2 ^ 53):feq .f64 (Vc.fl a) (Vc.fl b)=decide (a=b):=by
 unfold feq
 rw [Vc.fl_order ha hb]
 rcases Int.lt_trichotomy a b with h | h | h
 ·rw [Int.compare_eq_lt.2 h,decide_eq_false (by omega)];rfl
 ·rw [h,Int.compare_eq_eq.2 rfl,decide_eq_true rfl];rfl
 ·rw [Int.compare_eq_gt.2 h,decide_eq_false (by omega)];rfl
theorem fl_top:Vc.fl 2147483647=4746794007244308480:=by decide +kernel
theorem fl_bot:Vc.fl (-2147483647)=13970166044099084288:=by decide +kernel
theorem foI_fl (n:Int):foI .f64 n=Vc.fl n:=rfl
theorem ftoI_fl {n:Int} (h:InW n):ftoI .f64 .i64 (Vc.fl n)=some n:=by
 unfold ftoI
 rw [Vc.fl_toInt h.abs]
 have h1:=h.1
 have h2:=h.2
 have e1:IntKind.i64.min = -9223372036854775808:=by decide
 have e2:IntKind.i64.max=9223372036854775807:=by decide
 simp only
 rw [e1,e2,decide_eq_true (by omega),decide_eq_true (by omega)]
 rfl
theorem part_in {n:Int} (h:InW n):F_flow_part (Vc.fl n)=some (n,true):=by
 unfold F_flow_part
 have h1:=h.1
 have h2:=h.2
 rw [<-fl_top,<- fl_bot,fgt_fl h.abs (by decide),feq_fl h.abs (by decide),flt_fl h.abs (by decide),feq_fl h.abs (by decide)]
 have e:(!((decide (-2147483647 < n)||decide (n = -2147483647))&&(decide (n < 2147483647)||decide (n=2147483647))))=false:=by
  simp only [Bool.not_eq_false',Bool.and_eq_true,Bool.or_eq_true,decide_eq_true_eq]
  omega
 rw [e,cond_false,ftoI_fl h]
 simp only [Option.bind_some]
 rw [foI_fl,feq_fl h.abs h.abs,decide_eq_true rfl]
def fz (a b:Int):Nat×Nat:=(Vc.fl a,Vc.fl b)
theorem parts_in {a b:Int} (ha:InW a) (hb:InW b):F_flow_parts (fz a b)=some (a,b,true):=by
 unfold F_flow_parts fz
 rw [part_in ha,Option.bind_some,part_in hb]
 rfl
theorem cut_in {a:Int} (ha:InW a):F_flow_cut a=some a:=by
 have h1:=ha.1
 have h2:=ha.2
 unfold F_flow_cut minI maxI
 rw [decide_eq_false (show ¬ -2147483647 > a by omega),cond_false,decide_eq_false (show ¬ 2147483647 < a by omega),cond_false]
theorem windows_in {a b:Int} (ha:InW a) (hb:InW b):F_flow_Windows a b=some (fz a b):=by
 unfold F_flow_Windows
 rw [cut_in ha,Option.bind_some,cut_in hb]
 rfl
theorem stream_in {a b:Int} (ha:InW a) (hb:InW b):F_flow_Stream (fz a b)=some a:=by
 unfold F_flow_Stream
 rw [parts_in ha hb]
 rfl
theorem conn_in {a b:Int} (ha:InW a) (hb:InW b):F_flow_Conn (fz a b)=some b:=by
 unfold F_flow_Conn
 rw [parts_in ha hb]
 rfl
theorem may_in {a b:Int} (ha:InW a) (hb:InW b):F_flow_May (fz a b)=some (maxI (minI a b) 0):=by
 unfold F_flow_May
 rw [stream_in ha hb,Option.bind_some,conn_in ha hb]
 rfl
theorem spend_in {a b n:Int} (ha:InW a) (hb:InW b) (h0:0<=n) (h1:n<=a) (h2:n<=b):F_flow_Spend (fz a b) n=some (fz (a - n) (b - n),0):=by
 have a2:=ha.2
 have b2:=hb.2
 have hm:¬ n > maxI (minI a b) 0:=by
  unfold maxI minI
  by_cases hab:b < a
  ·rw [decide_eq_true hab,cond_true]
   by_cases h:(0:Int) > b
   ·omega
   ·rw [decide_eq_false h,cond_false];omega
  ·rw [decide_eq_false hab,cond_false]
   by_cases h:(0:Int) > a
   ·omega
   ·rw [decide_eq_false h,cond_false];omega
 unfold F_flow_Spend
 rw [parts_in ha hb,Option.bind_some,decide_eq_false (show ¬ n < 0 by omega),Bool.or_false]
 show cond false _ _=_
 rw [cond_false,may_in ha hb,Option.bind_some,decide_eq_false hm,cond_false]
 show (fsub .f64 (Vc.fl a) (Vc.fl n)).bind _=_
 have hn:n.natAbs < 2 ^ 53:=abs53 (by omega) (by omega)
 unfold fsub fz
 rw [Vc.fl_sub ha.abs hn (abs53 (by omega) (by omega)),Option.bind_some]
 show (FloatKind.f64.format.sub (Vc.fl b) (Vc.fl n)).bind _=_
 rw [Vc.fl_sub hb.abs hn (abs53 (by omega) (by omega)),Option.bind_some]
theorem spend_over {a b n:Int} (ha:InW a) (hb:InW b) (h0:0 < n) (h:a < n \/ b < n):F_flow_Spend (fz a b) n=some ((0,0),1):=by
 have hm:n > maxI (minI a b) 0:=by
  unfold maxI minI
  by_cases hab:b < a
  ·rw [decide_eq_true hab,cond_true]
   by_cases h:(0:Int) > b
   ·rw [decide_eq_true h,cond_true];omega
   ·rw [decide_eq_false h,cond_false];omega
  ·rw [decide_eq_false hab,cond_false]
   by_cases h:(0:Int) > a
   ·rw [decide_eq_true h,cond_true];omega
   ·rw [decide_eq_false h,cond_false];omega
 unfold F_flow_Spend
 rw [parts_in ha hb,Option.bind_some,decide_eq_false (show ¬ n < 0 by omega),Bool.or_false]
 show cond false _ _=_
 rw [cond_false,may_in ha hb,Option.bind_some,decide_eq_true hm,cond_true]
abbrev Fld:=List Int×List Int×Bool
abbrev MD:=List (Int×Int)
abbrev WD:=Int×Int×Int×Bool×Bool×Bool×Int×Int×Int×List (List (Int×Int))×(Int×Int×Int×Int×Int×Int)×Int×Int×Bool
abbrev SD:=Option Int×Bool×Bool×Bool×List Int
abbrev PD:=Int×List Int
abbrev DD:=Int×Bool
abbrev TD:=List Fld×Int×Int
theorem getI_set {α:Type} {l:List α} {j:Int} {x y:α} (h:getI l j=some y):getI (l.set j.toNat x) j=some x:=by
 unfold getI at h ⊢
 cases hd:decide (0<=j) with
 | false=>rw [hd] at h;cases h
 | true=>
  rw [hd,cond_true] at h
  rw [cond_true,List.getElem?_set,if_pos rfl,if_pos (List.getElem?_eq_some_iff.1 h).1]
theorem getI_nn {α:Type} {l:List α} {j:Int} {y:α} (h:getI l j=some y):nnI j=true:=by
 unfold getI at h
 unfold nnI
 cases hd:decide (0<=j) with
 | false=>rw [hd] at h;cases h
 | true=>rfl
theorem getI_app {α:Type} {l r:List α} {j:Int} {y:α} (h:getI l j=some y):getI (l++r) j=some y:=by
 unfold getI at h ⊢
 cases hd:decide (0<=j) with
 | false=>rw [hd] at h;cases h
 | true=>
  rw [hd,cond_true] at h
  rw [cond_true,List.getElem?_append_left (List.getElem?_eq_some_iff.1 h).1]
  exact h
theorem getI_new {α:Type} {l:List α} {y:α}:getI (l++[y]) (l.length:Int)=some y:=by
 unfold getI
 rw [decide_eq_true (by omega),cond_true,Int.toNat_natCast,List.getElem?_append_right (Nat.le_refl _),Nat.sub_self]
 rfl
theorem getI_new0 {α:Type} {l r:List α} {y:α}:getI (l++y::r) (l.length:Int)=some y:=by
 unfold getI
 rw [decide_eq_true (by omega),cond_true,Int.toNat_natCast,List.getElem?_append_right (Nat.le_refl _),Nat.sub_self]
 rfl
theorem set_two {α:Type} {l:List α} {j:Int} {x y:α}:(l.set j.toNat x).set j.toNat y=l.set j.toNat y:=List.set_set _
section
variable {p : Int} {M : List MD} {W : List WD} {S : List SD} {P : List PD} {D : List DD} {T : List TD}
variable {head inn out highest m window dec frames : Int} {deaf blind gone : Bool} {waits : List (List (Int × Int))} {sets : Int × Int × Int × Int × Int × Int}
theorem out_step {k fl s:Int} {body:List Int} {P':List PD} {W':List WD} {S':List SD} {D':List DD} {T':List TD} {head' inn' out' highest' m' window' dec' frames':Int} {deaf' blind' gone' bad':Bool} {waits':List (List (Int×Int))} {sets':Int×Int×Int×Int×Int×Int}
  (hW:getI W p=some (head,inn,out,deaf,false,false,highest,m,window,waits,sets,dec,frames,gone)) (hN:F_frame_Parser_Next out P=some (k,fl,s,body,0,P'))
  (hR:F_watch_Watch_right p k fl s body M W S D T=some (true,W',S',D',T')) (hW':getI W' p=some (head',inn',out',deaf',blind',bad',highest',m',window',waits',sets',dec',frames',gone')) (hf : -4611686018427387904<=frames' /\ frames'<=4611686018427387900) :
  F_watch_Watch_Out_L3 p M (W,S,P,D,T)=some (.inr (W'.set p.toNat (head',inn',out',deaf',blind',false,highest',m',window',waits',sets',dec',frames'+1,gone'),S',P',D',T')):=by
 have hp:=getI_nn hW
 unfold F_watch_Watch_Out_L3 chk
 simp only [hp,cond_true,hW,Option.bind_some,Bool.not_false,hN]
 rw [show ((0:Int)==4)=false from rfl,cond_false,show ((0:Int) != 0)=false from rfl,cond_false]
 simp only [hR,Option.bind_some,hW',Bool.not_true,getI_set hW',Bool.not_false,cond_true,set_two]
 rw [wB64 (by omega) (by omega)]
theorem out_wrong {k fl s:Int} {body:List Int} {P':List PD} {W':List WD} {S':List SD} {D':List DD} {T':List TD} {head' inn' out' highest' m' window' dec' frames':Int} {deaf' blind' gone' bad':Bool} {waits':List (List (Int×Int))} {sets':Int×Int×Int×Int×Int×Int}
  (hW:getI W p=some (head,inn,out,deaf,false,false,highest,m,window,waits,sets,dec,frames,gone)) (hN:F_frame_Parser_Next out P=some (k,fl,s,body,0,P'))
  (hR:F_watch_Watch_right p k fl s body M W S D T=some (false,W',S',D',T')) (hW':getI W' p=some (head',inn',out',deaf',blind',bad',highest',m',window',waits',sets',dec',frames',gone')) :
  F_watch_Watch_Out_L3 p M (W,S,P,D,T)=some (.inr (W'.set p.toNat (head',inn',out',deaf',blind',true,highest',m',window',waits',sets',dec',frames',gone'),S',P',D',T')):=by
 have hp:=getI_nn hW
 unfold F_watch_Watch_Out_L3 chk
 simp only [hp,cond_true,hW,Option.bind_some,Bool.not_false,hN]
 rw [show ((0:Int)==4)=false from rfl,cond_false,show ((0:Int) != 0)=false from rfl,cond_false]
 simp only [hR,Option.bind_some,hW',Bool.not_false,getI_set hW',Bool.not_true,cond_false]
theorem out_short (hW:getI W p=some (head,inn,out,deaf,false,false,highest,m,window,waits,sets,dec,frames,gone)) {k fl s:Int} {body:List Int} {P':List PD} (hN:F_frame_Parser_Next out P=some (k,fl,s,body,4,P')) :
  F_watch_Watch_Out_L3 p M (W,S,P,D,T)=some (.inl (0,W,S,P',D,T)):=by
 have hp:=getI_nn hW
 unfold F_watch_Watch_Out_L3 chk
 simp only [hp,cond_true,hW,Option.bind_some,Bool.not_false,hN]
 rw [show ((4:Int)==4)=true from rfl,cond_true,cond_false]
 rfl
theorem out_bad (hW:getI W p=some (head,inn,out,deaf,blind,true,highest,m,window,waits,sets,dec,frames,gone)):F_watch_Watch_Out_L3 p M (W,S,P,D,T)=some (.inl (2,W,S,P,D,T)):=by
 have hp:=getI_nn hW
 unfold F_watch_Watch_Out_L3 chk
 simp only [hp,cond_true,hW,Option.bind_some,Bool.not_true,cond_false]
 rfl
theorem out_at {bad:Bool} {room:Int} {X b:List Int} (hW:getI W p=some (head,inn,out,deaf,blind,bad,highest,m,window,waits,sets,dec,frames,gone)) (hP:getI P out=some (room,X)) (hl:X.length+b.length<=100000000) :
  F_watch_Watch_Out p b M W S P D T=loopC (F_watch_Watch_Out_L3 p M) (W,S,P.set out.toNat (room,X++b),D,T):=by
 have hp:=getI_nn hW
 unfold F_watch_Watch_Out chk
 rw [hp,cond_true,hW,Option.bind_some]
 dsimp only
 rw [feed_at (getI_nn hP) hP hl,Option.bind_some]
theorem in_step {bad:Bool} {k fl s:Int} {body:List Int} {P':List PD} {x:List MD×List WD×List SD} (hW:getI W p=some (head,inn,out,false,false,bad,highest,m,window,waits,sets,dec,frames,gone)) (hN:F_frame_Parser_Next inn P=some (k,fl,s,body,0,P'))
  (hH:F_watch_Watch_hears p k fl s body M W S=some x):F_watch_Watch_In_L3 p (M,W,S,P)=some (.inr (x.1,x.2.1,x.2.2,P')):=by
 have hp:=getI_nn hW
 have hid:W.set p.toNat (head,inn,out,false,false,bad,highest,m,window,waits,sets,dec,frames,gone)=W:=by
  unfold getI at hW
  cases hd:decide (0<=p) with
  | false=>rw [hd] at hW;cases hW
  | true=>
   rw [hd,cond_true] at hW
   apply List.ext_getElem?
   intro i
   rw [List.getElem?_set]
   split
   ·rename_i e
    subst e
    rw [if_pos (List.getElem?_eq_some_iff.1 hW).1,hW]
   ·rfl
 unfold F_watch_Watch_In_L3 chk
 simp only [hp,cond_true,hW,Option.bind_some,Bool.not_false,hN]
 rw [show ((0:Int)==4)=false from rfl,cond_false]
 simp only [show ((0:Int) != 0)=false from rfl,hid,hW,Option.bind_some,Bool.not_false,cond_true,hH]
theorem in_short {bad:Bool} (hW:getI W p=some (head,inn,out,false,false,bad,highest,m,window,waits,sets,dec,frames,gone)) {k fl s:Int} {body:List Int} {P':List PD} (hN:F_frame_Parser_Next inn P=some (k,fl,s,body,4,P')) :
  F_watch_Watch_In_L3 p (M,W,S,P)=some (.inl (M,W,S,P')):=by
 have hp:=getI_nn hW
 unfold F_watch_Watch_In_L3 chk
 simp only [hp,cond_true,hW,Option.bind_some,Bool.not_false,hN]
 rw [show ((4:Int)==4)=true from rfl,cond_true]
theorem in_first {bad:Bool} {room:Int} {X pre b:List Int} (hW:getI W p=some (0,inn,out,deaf,blind,bad,highest,m,window,waits,sets,dec,frames,gone)) (hP:getI P inn=some (room,X)) (hpre:pre.length=24) (hl:X.length+b.length<=100000000) :
  F_watch_Watch_In p (pre++b) M W S P=loopC (F_watch_Watch_In_L3 p) (M,W.set p.toNat (24,inn,out,deaf,blind,bad,highest,m,window,waits,sets,dec,frames,gone),S,P.set inn.toNat (room,X++b)):=by
 have hp:=getI_nn hW
 have hlen:((pre++b).length:Int)=24+(b.length:Int):=by rw [List.length_append,hpre];omega
 have hm:minI (IntKind.i64.wrap (24 - 0)) ((pre++b).length:Int)=24:=by
  show cond (decide (((pre++b).length:Int) < 24)) _ _=_
  rw [decide_eq_false (by omega),cond_false];rfl
 have hc:cutI (pre++b) 24 ((pre++b).length:Int)=some b:=cutI_end pre b (by rw [hpre];rfl) rfl
 unfold F_watch_Watch_In chk
 simp only [hp,cond_true,hW,Option.bind_some,hm,show IntKind.i64.wrap (0+24)=24 from rfl,getI_set hW,hc]
 rw [feed_at (getI_nn hP) hP hl,Option.bind_some]
end
section
variable {p : Int} {M : List MD} {W : List WD} {S : List SD} {P : List PD} {D : List DD} {T : List TD}
theorem shrinks_nil {t:Int} {n z m:Int} (hT:getI T t=some ([],z,m)):F_dyn_Table_shrinks t n T=some (T.set t.toNat ([],z,m)):=by
 have ht:=getI_nn hT
 unfold F_dyn_Table_shrinks
 refine (join_inr (s:=((0:Int),T)) (loop_inl ?_)).trans ?_
 ·unfold F_dyn_Table_shrinks_L2 chk
  simp only [ht,cond_true,hT,Option.bind_some]
  rfl
 ·unfold F_dyn_Table_shrinks_J1 chk
  have hc:cutI ([]:List Fld) 0 ((([]:List Fld).length:Nat):Int)=some []:=rfl
  have he:eqI t t=true:=by unfold eqI;exact beq_self_eq_true t
  simp only [ht,cond_true,hT,Option.bind_some,hc,he]
theorem limit_nil {t:Int} {n z m:Int} (h0:0<=n) (h1:n<=4096) (hT:getI T t=some ([],z,m)):F_dyn_Table_Limit t n T=some (0,T.set t.toNat ([],z,n)):=by
 have ht:=getI_nn hT
 unfold F_dyn_Table_Limit
 rw [decide_eq_false (show ¬ n < 0 by omega),decide_eq_false (show ¬ n > 4096 by omega)]
 show cond false _ _=_
 rw [cond_false]
 unfold chk F_slices_Clone_stat_Field_stat_Field
 have h2:=getI_set (x:=(([]:List Fld),z,n)) hT
 simp only [ht,cond_true,hT,Option.bind_some,shrinks_nil h2,h2,set_two]
 rfl
theorem dnew_at:F_dyn_New 4096 T=some ((T.length:Int),0,T++[([],(0,4096))]):=by
 have h:getI (T++[(([]:List Fld),((0:Int),(0:Int)))]) (T.length:Int)=some ([],0,0):=getI_new
 unfold F_dyn_New
 rw [limit_nil (by decide) (by decide) h,Option.bind_some]
 have e:(T++[(([]:List Fld),((0:Int),(0:Int)))]).set (T.length:Int).toNat ([],(0,4096))=T++[([],(0,4096))]:=by
  rw [Int.toNat_natCast,List.set_append_right _ _ (Nat.le_refl _),Nat.sub_self];rfl
 rw [e]
 rfl
abbrev w0 (M:List MD) (P:List PD) (D:List DD):WD:=(0,(P.length:Int),(P.length:Int)+1,false,false,false,0,(M.length:Int),65535,[],(4096,1,2147483647,65535,16384,2147483647),(D.length:Int),0,false)
theorem new_at:F_watch_New M W P D T=some ((W.length:Int),M++[[]],W++[w0 M P D],P++[(16384,[]),(16384,[])],D++[((T.length:Int),false)],T++[([],(0,4096))]):=by
 unfold F_watch_New F_frame_New F_sets_First F_unpack_New
 simp only [Option.bind_some,dnew_at]
 have e:((P++[((16384:Int),([]:List Int))]).length:Int)=(P.length:Int)+1:=by rw [List.length_append];simp
 have e2:P++[((16384:Int),([]:List Int))]++[(16384,[])]=P++[(16384,[]),(16384,[])]:=by rw [List.append_assoc];rfl
 rw [e,e2]
end
theorem ckB {n m:Nat} (h:n+m<=1000000000):(decide ((n+m)*1<=140737488355328)&&decide (n+m<=maxLen))=true:=by
 have hm:maxLen=9223372036854775807:=rfl
 rw [Bool.and_eq_true,decide_eq_true_iff,decide_eq_true_iff]
 omega
def beL (n:Int):Nat->List Int
 | 0=>[]
 | k+1=>IntKind.u8.wrap (Int.fdiv n (2 ^ (8*k)))::beL n k
theorem beL_len (n:Int):∀ k,(beL n k).length=k
 | 0=>rfl
 | k+1=>by show (beL n k).length+1=_;rw [beL_len n k]
theorem u8w (x:Int):IntKind.u8.wrap x=x % 256:=by
 rw [IntKind.wrap_u8]
theorem u8_id {x:Int} (h0:0<=x) (h1:x<=255):IntKind.u8.wrap x=x:=by rw [u8w];omega
theorem num_loop (n:Int):∀ (k:Nat) (l:List Int),k<=8->l.length+k<=100->loopC (F_wlvref10_num_L4 n) (l,(k:Int) - 1)=some (.inr (l++beL n k))
 | 0,l,_,_=>by
  refine loop_inl ?_
  unfold F_wlvref10_num_L4
  dsimp only
  rw [decide_eq_false (by omega),cond_false]
  unfold beL
  rw [List.append_nil]
 | k+1,l,hk,hl=>by
  refine loop_inr (s':=(l++[IntKind.u8.wrap (Int.fdiv n (2 ^ (8*k)))],(k:Int) - 1)) ?_ ((num_loop n k _ (by omega) (by rw [List.length_append];show l.length+1+k<=_;omega)).trans (by rw [List.append_assoc];rfl))
  unfold F_wlvref10_num_L4 chk
  dsimp only
  have e:((k+1:Nat):Int) - 1=(k:Int):=by omega
  have e8:IntKind.i64.wrap (8*(k:Int))=8*(k:Int):=wB64 (by omega) (by omega)
  have eu:IntKind.u64.wrap (8*(k:Int))=8*(k:Int):=by
   show (8*(k:Int)) % 18446744073709551616=_
   omega
  have e9:(min (8*(k:Int)).toNat 64)=8*k:=by omega
  rw [e,decide_eq_true (show (k:Int) >= 0 by omega),cond_true,e8,eu,e9,decide_eq_true (show 0<=8*(k:Int) by omega),cond_true,ckB (by simp;omega),cond_true,wB64 (x:=(k:Int) - 1) (by omega) (by omega)]
theorem num_eq (n:Int) (k:Nat) (hk:k<=8):F_wlvref10_num n (k:Int)=some (beL n k):=by
 unfold F_wlvref10_num
 have h:=num_loop n k [] hk (by simp;omega)
 rw [wB64 (by omega) (by omega),join_inr h]
 rfl
theorem be4_eq {n:Int} (h0:0<=n) (h1:n < 4294967296):beL n 4=[n / 16777216,n / 65536 % 256,n / 256 % 256,n % 256]:=by
 unfold beL beL beL beL beL
 rw [u8w,u8w,u8w,u8w,Int.fdiv_eq_ediv_of_nonneg _ (by decide),Int.fdiv_eq_ediv_of_nonneg _ (by decide),Int.fdiv_eq_ediv_of_nonneg _ (by decide),Int.fdiv_eq_ediv_of_nonneg _ (by decide)]
 have e3:(2:Int) ^ (8*3)=16777216:=by decide
 have e2:(2:Int) ^ (8*2)=65536:=by decide
 have e1:(2:Int) ^ (8*1)=256:=by decide
 have e0:(2:Int) ^ (8*0)=1:=by decide
 rw [e3,e2,e1,e0,show n / 16777216 % 256=n / 16777216 by omega,Int.ediv_one]
theorem be3_eq {n:Int} (h0:0<=n) (h1:n < 16777216):beL n 3=[n / 65536,n / 256 % 256,n % 256]:=by
 unfold beL beL beL beL
 rw [u8w,u8w,u8w,Int.fdiv_eq_ediv_of_nonneg _ (by decide),Int.fdiv_eq_ediv_of_nonneg _ (by decide),Int.fdiv_eq_ediv_of_nonneg _ (by decide)]
 have e2:(2:Int) ^ (8*2)=65536:=by decide
 have e1:(2:Int) ^ (8*1)=256:=by decide
 have e0:(2:Int) ^ (8*0)=1:=by decide
 rw [e2,e1,e0,show n / 65536 % 256=n / 65536 by omega,Int.ediv_one]
theorem put_eq {k fl s:Int} {body:List Int} (h:okFb k fl s body):F_wlvref10_Put k fl s body=some (fb k fl s body,0):=by
 obtain ⟨hk,hf,hs,hb⟩:=h
 unfold F_wlvref10_Put
 rw [decide_eq_false (show ¬ k < 0 by omega),cond_false,decide_eq_false (show ¬ k > 255 by omega),cond_false,decide_eq_false (show ¬ fl < 0 by omega),cond_false,decide_eq_false (show ¬ fl > 255 by omega),cond_false,decide_eq_false (show ¬ s < 0 by omega),cond_false,
  decide_eq_false (show ¬ s > 2147483647 by omega),cond_false,decide_eq_false (show ¬ (body.length:Int) >= 16777216 by omega),cond_false]
 have h3:=num_eq (body.length:Int) 3 (by omega)
 have h4:=num_eq s 4 (by omega)
 have h3':F_wlvref10_num (body.length:Int) 3=some (beL (body.length:Int) 3):=h3
 have h4':F_wlvref10_num s 4=some (beL s 4):=h4
 rw [h3',Option.bind_some]
 unfold chk
 rw [ckB (by rw [beL_len];simp),cond_true,h4',Option.bind_some,ckB (by simp only [List.length_append,beL_len,List.length_cons,List.length_nil];omega),cond_true,ckB (by simp only [List.length_append,beL_len,List.length_cons,List.length_nil];omega),cond_true,u8_id (x:=k) (by omega) (by omega),u8_id (x:=fl) (by omega) (by omega)]
 rw [be3_eq (by omega) (by omega),be4_eq (by omega) (by omega)]
 rfl
abbrev Fr4:=Int×Int×Int×List Int
def fbs:List Fr4->List Int
 | []=>[]
 | f::r=>fb f.1 f.2.1 f.2.2.1 f.2.2.2++fbs r
def okFbs (l:List Fr4):Prop:=∀ f∈l,okFb f.1 f.2.1 f.2.2.1 f.2.2.2
theorem fbs_len:∀ {l:List Fr4},okFbs l->(fbs l).length<=16393*l.length
 | [],_=>Nat.le_refl _
 | f::r,h=>by
  have:=fbs_len (l:=r) fun x hx=>h x (List.mem_cons_of_mem _ hx)
  have h2:=(h f List.mem_cons_self).2.2.2
  unfold fbs
  rw [List.length_append,fb_len,List.length_cons]
  omega
theorem frames_loop (l:List Fr4) (hl:l.length<=100) (h:okFbs l):∀ (k i:Nat) (acc:List Int),i+k=l.length->acc.length<=16393*i->loopC (F_wlvlaw27_frames_L4 l) (acc,(i:Int))=some (.inr (acc++fbs (l.drop i)))
 | 0,i,acc,hi,ha=>by
  refine loop_inl ?_
  unfold F_wlvlaw27_frames_L4
  dsimp only
  rw [decide_eq_false (by omega),cond_false,List.drop_of_length_le (by omega)]
  unfold fbs
  rw [List.append_nil]
 | k+1,i,acc,hi,ha=>by
  have hlt:i < l.length:=by omega
  have hg:getI l (i:Int)=some l[i]:=by
   unfold getI
   rw [decide_eq_true (by omega),cond_true,Int.toNat_natCast,List.getElem?_eq_getElem hlt]
  have hok:=h l[i] (List.getElem_mem hlt)
  have hfl:=fb_len l[i].1 l[i].2.1 l[i].2.2.1 l[i].2.2.2
  have hb:=hok.2.2.2
  refine loop_inr (s':=(acc++fb l[i].1 l[i].2.1 l[i].2.2.1 l[i].2.2.2,((i+1:Nat):Int))) ?_ ((frames_loop l hl h k (i+1) _ (by omega) (by rw [List.length_append,hfl];omega)).trans ?_)
  ·unfold F_wlvlaw27_frames_L4 chk
   dsimp only
   rw [decide_eq_true (by omega),cond_true,hg,Option.bind_some,put_eq hok,Option.bind_some,ckB (by rw [hfl];omega),cond_true,wB64 (x:=(i:Int)+1) (by omega) (by omega)]
   rfl
  ·rw [List.drop_eq_getElem_cons hlt,List.append_assoc]
   rfl
theorem frames_eq {l:List Fr4} (hl:l.length<=100) (h:okFbs l):F_wlvlaw27_frames l=some (fbs l):=by
 unfold F_wlvlaw27_frames
 have:=frames_loop l hl h l.length 0 [] (by omega) (by simp)
 rw [List.drop_zero,List.nil_append] at this
 exact (join_inr this).trans rfl
theorem settings_eq (a:Bool):F_wlvref10_Settings [] a=some (4,cond a 1 0,0,[]):=by
 unfold F_wlvref10_Settings
 cases a
 ·exact (join_inr (s:=(0,0,0,[],4,0,0,[])) (loop_inl rfl)).trans rfl
 ·exact (join_inr (s:=(0,0,0,[],4,1,0,[])) (loop_inl rfl)).trans rfl
theorem update_eq {s n:Int} (h0:0<=n) (h1:n<=2147483647):F_wlvref10_Update s n=some (8,0,s,[n / 16777216,n / 65536 % 256,n / 256 % 256,n % 256]):=by
 unfold F_wlvref10_Update
 rw [and31 h0 (by omega),show n % 2147483648=n by omega]
 have:=num_eq n 4 (by omega)
 have h4:F_wlvref10_num n 4=some (beL n 4):=this
 rw [h4,Option.bind_some,be4_eq h0 (by omega)]
theorem rst_eq {s c:Int} (h0:0<=c) (h1:c<=2147483647):F_wlvref10_Rst s c=some (3,0,s,[c / 16777216,c / 65536 % 256,c / 256 % 256,c % 256]):=by
 unfold F_wlvref10_Rst
 have:=num_eq c 4 (by omega)
 have h4:F_wlvref10_num c 4=some (beL c 4):=this
 rw [h4,Option.bind_some,be4_eq h0 (by omega)]
abbrev PrtD:=List Int×Int×Int×Int×Int×List (Int×Int)×Bool×Bool×Bool×Bool×Bool×Int
theorem eta12 (x:Option PrtD):(x.bind fun x5=>some (x5.1,x5.2.1,x5.2.2.1,x5.2.2.2.1,x5.2.2.2.2.1,x5.2.2.2.2.2.1,x5.2.2.2.2.2.2.1,x5.2.2.2.2.2.2.2.1,x5.2.2.2.2.2.2.2.2.1,x5.2.2.2.2.2.2.2.2.2.1,x5.2.2.2.2.2.2.2.2.2.2.1,x5.2.2.2.2.2.2.2.2.2.2.2))=x:=by cases x <;> rfl
theorem read0 (fl s:Int) (l:List Int):F_part_Read 0 fl s l=F_part_bodied 0 fl s l:=eta12 _
theorem read1 (fl s:Int) (l:List Int):F_part_Read 1 fl s l=F_part_bodied 1 fl s l:=eta12 _
theorem read4 (fl s:Int) (l:List Int):F_part_Read 4 fl s l=F_part_settings 4 fl s l:=eta12 _
theorem read5 (fl s:Int) (l:List Int):F_part_Read 5 fl s l=F_part_conn 1:=rfl
theorem read8 (fl s:Int) (l:List Int):F_part_Read 8 fl s l=F_part_update 8 fl s l:=eta12 _
theorem clone_eq {l:List Int} (h:l.length<=100000000):F_bytes_Clone l=some l:=by
 unfold F_bytes_Clone
 rw [Nat.ble_eq_true_of_le h,cond_true]
theorem cut_all (l:List Int) (h:l.length<=1000000000):cutI l 0 (IntKind.i64.wrap ((l.length:Int) - 0))=some l:=by
 rw [wB64 (by omega) (by omega)]
 exact cutI_end [] l rfl (by simp)
theorem bodied_data {fl s:Int} {body:List Int} (hs:(s==0)=false) (hf:(bits .and .i64 fl 8==0)=true) (hb:body.length<=16384):F_part_bodied 0 fl s body=some (body,0,0,0,0,[],decide (bits .and .i64 fl 1 > 0),false,false,false,false,0):=by
 unfold F_part_bodied
 refine (join_inr (s:=(0,(body,0,[],0,0,0,0,[],decide (bits .and .i64 fl 1 > 0),false,false,[],0,0,0,0,[],false,false,false,false,false,0))) ?_).trans (loop_inr (s':=(1,(body,0,[],0,0,0,0,[],decide (bits .and .i64 fl 1 > 0),false,false,[],0,0,0,0,[],false,false,false,false,false,0))) rfl (loop_inl ?_))
 ·rw [show ((0:Int)==1)=false from rfl,cond_false,hs,cond_false,hf,cond_true]
 ·unfold F_part_bodied_G1
  rw [show hasN [0] 1=false from rfl,cond_false,show hasN [1] 1=true from rfl,cond_true]
  unfold F_part_bodied_G1_1
  dsimp only
  rw [decide_eq_false (show ¬ (0:Int) > (body.length:Int) by omega),cond_false,cut_all body (by omega),Option.bind_some,clone_eq (by omega),Option.bind_some]
theorem bodied_head {fl s:Int} {body:List Int} (hs:(s==0)=false) (hf:(bits .and .i64 fl 8==0)=true) (hf2:(bits .and .i64 fl 32==0)=true) (hb:body.length<=16384) :
  F_part_bodied 1 fl s body=some (body,0,0,0,0,[],decide (bits .and .i64 fl 1 > 0),false,decide (bits .and .i64 fl 4 > 0),false,false,0):=by
 unfold F_part_bodied
 refine (join_inr (s:=(0,(body,0,[],0,0,0,0,[],decide (bits .and .i64 fl 1 > 0),false,decide (bits .and .i64 fl 4 > 0),[],0,0,0,0,[],false,false,false,false,false,0))) ?_).trans (loop_inr (s':=(1,(body,0,[],0,0,0,0,[],decide (bits .and .i64 fl 1 > 0),false,decide (bits .and .i64 fl 4 > 0),[],0,0,0,0,[],false,false,false,false,false,0))) ?_ (loop_inl ?_))
 ·rw [show ((1:Int)==1)=true from rfl,cond_true,hs,cond_false,hf,cond_true]
 ·unfold F_part_bodied_G1
  rw [show hasN [0] 0=true from rfl,cond_true]
  unfold F_part_bodied_G1_0
  dsimp only
  rw [show ((1:Int)==0)=false from rfl,cond_false,hf2,cond_true]
 ·unfold F_part_bodied_G1
  rw [show hasN [0] 1=false from rfl,cond_false,show hasN [1] 1=true from rfl,cond_true]
  unfold F_part_bodied_G1_1
  dsimp only
  rw [decide_eq_false (show ¬ (0:Int) > (body.length:Int) by omega),cond_false,cut_all body (by omega),Option.bind_some,clone_eq (by omega),Option.bind_some]
theorem read_settings (a:Bool):F_part_Read 4 (cond a 1 0) 0 []=some ([],0,0,0,0,[],false,a,false,false,false,0):=by
 rw [read4]
 cases a
 ·exact (join_inr (s:=(([]:List Int),0,0,0,0,([]:List (Int×Int)),false,false,false,false,false,0,([]:List Int),0,0,0,0,([]:List (Int×Int)),false,false,false)) (loop_inl rfl)).trans rfl
 ·exact (join_inr (s:=(([]:List Int),0,0,0,0,([]:List (Int×Int)),false,false,false,false,false,0,([]:List Int),0,0,0,0,([]:List (Int×Int)),false,true,false)) (loop_inl rfl)).trans rfl
theorem read_update {s n:Int} (h0:1<=n) (h1:n<=2147483647):F_part_Read 8 0 s [n / 16777216,n / 65536 % 256,n / 256 % 256,n % 256]=some ([],0,0,0,n,[],false,false,false,false,false,0):=by
 have hn:F_part_number [n / 16777216,n / 65536 % 256,n / 256 % 256,n % 256]=some n:=by
  unfold F_part_number
  show some _=some _
  rw [num4 (by omega) (by omega) (by omega) (by omega)]
  congr 1
  omega
 have hm:bits .and .i64 n 2147483647=n:=by rw [and31 (by omega) (by omega)];omega
 rw [read8]
 unfold F_part_update
 rw [show ((([n / 16777216,n / 65536 % 256,n / 256 % 256,n % 256]:List Int).length:Int) != 4)=false from rfl,cond_false,hn,Option.bind_some,hm,show (n==0)=false from beq_eq_false_iff_ne.2 (by omega),cond_false]
 rfl
theorem read_rst {s c:Int} (hs:(s==0)=false) (h0:0<=c) (h1:c<=2147483647):F_part_Read 3 0 s [c / 16777216,c / 65536 % 256,c / 256 % 256,c % 256]=some ([],0,c,0,0,[],false,false,false,false,false,0):=by
  have hn:F_part_number [c / 16777216,c / 65536 % 256,c / 256 % 256,c % 256]=some c:=by
    unfold F_part_number
    show some _=some _
    rw [num4 (by omega) (by omega) (by omega) (by omega)]
    congr 1
    omega
  have e : F_part_Read 3 0 s [c / 16777216, c / 65536 % 256, c / 256 % 256, c % 256] = cond (s == 0) ((F_part_conn 1).bind fun x10 => some (x10.1, x10.2.1, x10.2.2.1, x10.2.2.2.1, x10.2.2.2.2.1, x10.2.2.2.2.2.1, x10.2.2.2.2.2.2.1, x10.2.2.2.2.2.2.2.1, x10.2.2.2.2.2.2.2.2.1, x10.2.2.2.2.2.2.2.2.2.1, x10.2.2.2.2.2.2.2.2.2.2.1, x10.2.2.2.2.2.2.2.2.2.2.2))
      ((F_part_number [c / 16777216,c / 65536 % 256,c / 256 % 256,c % 256]).bind fun i14=>some (([]:List Int),0,i14,0,0,([]:List (Int×Int)),false,false,false,false,false,0)):=rfl
  rw [e,hs,cond_false,hn]
  rfl
theorem ckW {n m k:Nat} (h:n+m<=1000000000) (hk:k<=1000):(decide ((n+m)*k<=140737488355328)&&decide (n+m<=maxLen))=true:=by
 have hm:maxLen=9223372036854775807:=rfl
 rw [Bool.and_eq_true,decide_eq_true_iff,decide_eq_true_iff]
 have:(n+m)*k<=1000000000*1000:=Nat.mul_le_mul h hk
 omega
section
variable {p : Int} {M : List MD} {W : List WD} {S : List SD} {P : List PD} {D : List DD} {T : List TD}
variable {head inn out highest m window dec frames : Int} {deaf blind bad gone : Bool} {waits : List (List (Int × Int))} {sets : Int × Int × Int × Int × Int × Int}
theorem hears_settings (hW:getI W p=some (head,inn,out,deaf,blind,bad,highest,m,window,waits,sets,dec,frames,gone)) (hl:waits.length<=1000) :
  F_watch_Watch_hears p 4 0 0 [] M W S=some (M,W.set p.toNat (head,inn,out,deaf,blind,bad,highest,m,window,waits++[[]],sets,dec,frames,gone),S):=by
 have hp:=getI_nn hW
 have hr:F_part_Read 4 0 0 []=some ([],0,0,0,0,[],false,false,false,false,false,0):=read_settings false
 have he:eqI p p=true:=beq_self_eq_true p
 unfold F_watch_Watch_hears chk
 rw [hr,Option.bind_some,show ((4:Int)==1)=false from rfl,cond_false,show ((4:Int)==4)=true from rfl,cond_true]
 simp only [Bool.not_false,cond_true,hp,hW,Option.bind_some,he]
 rw [ckW (by simp;omega) (by omega),cond_true]
theorem hears_headers {s:Int} {b:List Int} {mm:MD} (hW:getI W p=some (head,inn,out,deaf,blind,bad,highest,m,window,waits,sets,dec,frames,gone)) (hM:getI M m=some mm) (hb:b.length<=16384) (hs:(s==0)=false) (ho:(Int.tmod s 2==1)=true) (hh:s > highest) :
  F_watch_Watch_hears p 1 4 s b M W S=some (M.set m.toNat (mapSet mm s (S.length:Int)),W.set p.toNat (head,inn,out,deaf,blind,bad,s,m,window,waits,sets,dec,frames,gone),S++[(some sets.2.2.2.1,(false,(false,(false,[])))) ]):=by
 have hp:=getI_nn hW
 have hr:F_part_Read 1 4 s b=some (b,0,0,0,0,[],false,false,true,false,false,0):=by
  rw [read1,bodied_head hs (by decide +kernel) (by decide +kernel) hb]
  rfl
 unfold F_watch_Watch_hears chk
 rw [hr,Option.bind_some,show ((1:Int)==1)=true from rfl,cond_true,ho,cond_true]
 simp only [hp,cond_true,hW,Option.bind_some,decide_eq_true hh,getI_set hW,hM]
theorem inW0:InW 0:=⟨by decide,by decide⟩
theorem right_settings (hW:getI W p=some (head,inn,out,deaf,blind,bad,highest,m,window,waits,sets,dec,frames,gone)) (hg:gone=false):F_watch_Watch_right p 4 0 0 [] M W S D T=some (true,W,S,D,T):=by
 have hp:=getI_nn hW
 subst hg
 have hr:F_part_Read 4 0 0 []=some ([],0,0,0,0,[],false,false,false,false,false,0):=read_settings false
 unfold F_watch_Watch_right chk
 rw [hr,Option.bind_some,hp,cond_true,hW,Option.bind_some]
 dsimp only
 cases hf:(frames==0) <;> rfl
theorem right_bad {k fl s:Int} {b:List Int} {y:PrtD} (hW:getI W p=some (head,inn,out,deaf,blind,bad,highest,m,window,waits,sets,dec,frames,gone)) (hf:(frames==0)=false) (hr:F_part_Read k fl s b=some y) (hy:y.2.2.2.2.2.2.2.2.2.1=true):F_watch_Watch_right p k fl s b M W S D T=some (false,W,S,D,T):=by
 have hp:=getI_nn hW
 unfold F_watch_Watch_right chk
 rw [hr,Option.bind_some,hp,cond_true,hW,Option.bind_some]
 dsimp only
 rw [hf,cond_false,hy,cond_true,cond_true]
theorem right_head {s:Int} {b:List Int} (hW:getI W p=some (head,inn,out,deaf,blind,bad,highest,m,window,waits,sets,dec,frames,false)) (hf:(frames==0)=false) (hb:b.length<=16384) (hs:(s==0)=false)
  {x:Bool×List SD×List DD×List TD} (ha:F_watch_Watch_answers p 1 4 s b b 0 0 0 0 [] false false true M W S D T=some x):F_watch_Watch_right p 1 4 s b M W S D T=some (x.1,W,x.2.1,x.2.2.1,x.2.2.2):=by
 have hp:=getI_nn hW
 have hr:F_part_Read 1 4 s b=some (b,0,0,0,0,[],false,false,true,false,false,0):=by
  rw [read1,bodied_head hs (by decide +kernel) (by decide +kernel) hb]
  rfl
 unfold F_watch_Watch_right chk
 rw [hr,Option.bind_some,hp,cond_true,hW,Option.bind_some]
 dsimp only
 rw [hf,cond_false]
 have e:((F_watch_Watch_answers p 1 4 s b b 0 0 0 0 [] false false true M W S D T).bind fun x13=>some (x13.1,W,x13.2.1,x13.2.2.1,x13.2.2.2))=some (x.1,W,x.2.1,x.2.2.1,x.2.2.2):=by rw [ha,Option.bind_some]
 exact e
theorem right_data {fl s:Int} {b:List Int} (hW:getI W p=some (head,inn,out,deaf,blind,bad,highest,m,window,waits,sets,dec,frames,false)) (hf:(frames==0)=false) (hb:b.length<=16384) (hs:(s==0)=false) (h8:(bits .and .i64 fl 8==0)=true)
  {x:Bool×List WD×List SD} (ha:F_watch_Watch_sends p 0 fl s b b 0 0 0 0 [] (decide (bits .and .i64 fl 1 > 0)) false false M W S=some x):F_watch_Watch_right p 0 fl s b M W S D T=some (x.1,x.2.1,x.2.2,D,T):=by
 have hp:=getI_nn hW
 have hr:F_part_Read 0 fl s b=some (b,0,0,0,0,[],decide (bits .and .i64 fl 1 > 0),false,false,false,false,0):=by
  rw [read0,bodied_data hs h8 hb]
 unfold F_watch_Watch_right chk
 rw [hr,Option.bind_some,hp,cond_true,hW,Option.bind_some]
 dsimp only
 rw [hf,cond_false]
 have e:((F_watch_Watch_sends p 0 fl s b b 0 0 0 0 [] (decide (bits .and .i64 fl 1 > 0)) false false M W S).bind fun x13=>some (x13.1,x13.2.1,x13.2.2,D,T))=some (x.1,x.2.1,x.2.2,D,T):=by rw [ha,Option.bind_some]
 exact e
theorem right_rst {s c j:Int} {mm:MD} {w:Option Int} {b1 b2:Bool} {d:List Int} (hW:getI W p=some (head,inn,out,deaf,blind,bad,highest,m,window,waits,sets,dec,frames,false)) (hf:(frames==0)=false) (hs:(s==0)=false) (h0:0<=c) (h1:c<=2147483647)
  (hM:getI M m=some mm) (hj:getZ (mapGet mm s) (-1:Int)=j) (hS:getI S j=some (w,b1,b2,false,d)):F_watch_Watch_right p 3 0 s [c / 16777216,c / 65536 % 256,c / 256 % 256,c % 256] M W S D T=some (true,W,S.set j.toNat (w,b1,b2,true,d),D,T):=by
 have hp:=getI_nn hW
 have hjn:=getI_nn hS
 have hj1:eqI j (-1)=false:=by
  have:0<=j:=of_decide_eq_true hjn
  exact beq_eq_false_iff_ne.2 (by omega)
 unfold F_watch_Watch_right chk
 rw [read_rst hs h0 h1,Option.bind_some,hp,cond_true,hW,Option.bind_some]
 dsimp only
 rw [hf,cond_false,cond_false]
 simp only [show ((3:Int)==4)=false from rfl,show ((3:Int)==1)=false from rfl,show ((3:Int)==0)=false from rfl,show ((3:Int)==3)=true from rfl,cond_true,cond_false,hM,Option.bind_some,hj,hj1,hjn,hS,hp,hW]
theorem live_none {s:Int} {mm:MD} (hW:getI W p=some (head,inn,out,deaf,blind,bad,highest,m,window,waits,sets,dec,frames,gone)) (hM:getI M m=some mm) (hj:getZ (mapGet mm s) (-1:Int) = -1):F_watch_Watch_live p s M W S=some (-1):=by
 have hp:=getI_nn hW
 unfold F_watch_Watch_live chk
 simp only [hp,cond_true,hW,Option.bind_some,hM,hj]
 rfl
theorem live_one {s j:Int} {mm:MD} {w:Option Int} {b1:Bool} {d:List Int} (hW:getI W p=some (head,inn,out,deaf,blind,bad,highest,m,window,waits,sets,dec,frames,gone)) (hM:getI M m=some mm) (hj:getZ (mapGet mm s) (-1:Int)=j) (hS:getI S j=some (w,b1,false,false,d)):F_watch_Watch_live p s M W S=some j:=by
 have hp:=getI_nn hW
 have hjn:=getI_nn hS
 have hj1:eqI j (-1)=false:=by
  have:0<=j:=of_decide_eq_true hjn
  exact beq_eq_false_iff_ne.2 (by omega)
 unfold F_watch_Watch_live chk
 simp only [hp,cond_true,hW,Option.bind_some,hM,hj,hj1,Bool.not_false,hjn,hS]
theorem answers_none {s:Int} {b:List Int} {mm:MD} (hW:getI W p=some (head,inn,out,deaf,blind,bad,highest,m,window,waits,sets,dec,frames,gone)) (hM:getI M m=some mm) (hj:getZ (mapGet mm s) (-1:Int) = -1) :
  F_watch_Watch_answers p 1 4 s b b 0 0 0 0 [] false false true M W S D T=some (false,S,D,T):=by
 unfold F_watch_Watch_answers
 rw [live_none hW hM hj,Option.bind_some]
 rfl
theorem sends_ok {fl s j c:Int} {b:List Int} {mm:MD} {e:Bool} {d:List Int} (hW:getI W p=some (head,inn,out,deaf,blind,bad,highest,m,window,waits,sets,dec,frames,gone)) (hM:getI M m=some mm) (hj:getZ (mapGet mm s) (-1:Int)=j) (hS:getI S j=some (some c,true,false,false,d))
  (hb:(b.length:Int)<=sets.2.2.2.2.1) (hc:InW c) (hw:InW window) (h1:(b.length:Int)<=c) (h2:(b.length:Int)<=window) (hd:d.length+b.length<=1000000000) :
  F_watch_Watch_sends p 0 fl s b b 0 0 0 0 [] e false false M W S=some (true,W.set p.toNat (head,inn,out,deaf,blind,bad,highest,m,window - (b.length:Int),waits,sets,dec,frames,gone),S.set j.toNat (some (c - (b.length:Int)),true,e,false,d++b)):=by
 have hp:=getI_nn hW
 have hjn:=getI_nn hS
 have hj1:eqI j (-1)=false:=by
  have:0<=j:=of_decide_eq_true hjn
  exact beq_eq_false_iff_ne.2 (by omega)
 have he:eqI j j=true:=beq_self_eq_true j
 have c1:=hc.1
 have c2:=hc.2
 have w1:=hw.1
 have w2:=hw.2
 obtain ⟨n,hn⟩:∃ n:Int,(b.length:Int)=n:=⟨_,rfl⟩
 have hn0:0<=n:=by omega
 rw [hn] at hb h1 h2
 unfold F_watch_Watch_sends chk
 rw [live_one hW hM hj hS,Option.bind_some,hj1,cond_false,hn]
 have hS1:=getI_set (x:=(some (c - n),true,false,false,d)) hS
 have hS2:=getI_set (x:=(some (c - n),true,false,false,d++b)) hS
 simp only [hjn,cond_true,hS,Option.bind_some,Bool.not_true,cond_false,hp,hW,decide_eq_false (show ¬ n > sets.2.2.2.2.1 by omega),windows_in hc hw]
 by_cases h:n > 0
 ·rw [decide_eq_true h,cond_true,spend_in hc hw hn0 h1 h2,Option.bind_some]
  dsimp only
  rw [show ((0:Int) != 0)=false from rfl,cond_false,stream_in (show InW (c - n) from ⟨by omega,by omega⟩) (show InW (window - n) from ⟨by omega,by omega⟩),Option.bind_some,conn_in (show InW (c - n) from ⟨by omega,by omega⟩) (show InW (window - n) from ⟨by omega,by omega⟩),Option.bind_some]
  simp only [hS1,Option.bind_some,he,cond_true,set_two,hS2]
  rw [ckW (by omega) (by omega),cond_true]
 ·have e0:n=0:=by omega
  subst e0
  rw [decide_eq_false (by omega),cond_false,stream_in hc hw,Option.bind_some,conn_in hc hw,Option.bind_some]
  rw [Int.sub_zero] at hS1 hS2 ⊢
  rw [Int.sub_zero]
  simp only [hS1,Option.bind_some,he,cond_true,set_two,hS2]
  rw [ckW (by omega) (by omega),cond_true]
end
theorem chk_t {R:Type} {b:Bool} {r:Option R} (h:b=true):chk b r=r:=by subst h;rfl
theorem set_new {α:Type} {l:List α} {x y:α}:(l++[y]).set (l.length:Int).toNat x=l++[x]:=by
 rw [Int.toNat_natCast,List.set_append_right _ _ (Nat.le_refl _),Nat.sub_self];rfl
theorem set_new0 {α:Type} {l r:List α} {x y:α}:(l++y::r).set (l.length:Int).toNat x=l++x::r:=by
 rw [Int.toNat_natCast,List.set_append_right _ _ (Nat.le_refl _),Nat.sub_self];rfl
theorem set_new1 {α:Type} {l:List α} {x y z:α}:(l++[y,z]).set ((l.length:Int)+1).toNat x=l++[y,x]:=by
 rw [show ((l.length:Int)+1).toNat=l.length+1 by omega,List.set_append_right _ _ (Nat.le_add_right _ _),Nat.add_sub_cancel_left];rfl
theorem getI_new1 {α:Type} {l:List α} {y z:α}:getI (l++[y,z]) ((l.length:Int)+1)=some z:=by
 unfold getI
 rw [decide_eq_true (by omega),cond_true,show ((l.length:Int)+1).toNat=l.length+1 by omega,List.getElem?_append_right (Nat.le_add_right _ _),Nat.add_sub_cancel_left];rfl
theorem ok4 (a:Bool):okFb 4 (cond a 1 0) 0 []:=⟨by omega,by cases a <;> exact ⟨by decide,by decide⟩,by omega,by simp⟩
theorem ok5:okFb 5 0 1 []:=⟨by omega,by omega,by omega,by simp⟩
theorem nx_fb {p:Int} {Ps:List PD} {k fl s:Int} {body rest:List Int} (hok:okFb k fl s body) (hg:getI Ps p=some (16384,fb k fl s body++rest)) (hr:rest.length<=1000000000):F_frame_Parser_Next p Ps=some (k,fl,s,body,0,Ps.set p.toNat (16384,rest)):=next_fb (getI_nn hg) hok hg hr
theorem nx_short {p:Int} {Ps:List PD} {X:List Int} (hg:getI Ps p=some (16384,X)) (hX:X.length < 9):F_frame_Parser_Next p Ps=some (0,0,0,[],4,Ps):=next_short (getI_nn hg) hg hX
abbrev st5:Int×Int×Int×Int×Int×Int:=(4096,1,2147483647,65535,16384,2147483647)
section
variable (M : List MD) (W : List WD) (S : List SD) (P : List PD) (D : List DD) (T : List TD)
abbrev wAt (head:Int) (deaf blind bad:Bool) (highest window:Int) (waits:List (List (Int×Int))) (frames:Int) (gone:Bool):WD:=(head,(P.length:Int),(P.length:Int)+1,deaf,blind,bad,highest,(M.length:Int),window,waits,st5,(D.length:Int),frames,gone)
theorem fr_one {w:WD} {h i o:Int} {a b c:Bool} {hi m win:Int} {wa:List (List (Int×Int))} {se:Int×Int×Int×Int×Int×Int} {de f:Int} {g:Bool} (hw:w=(h,i,o,a,b,c,hi,m,win,wa,se,de,f,g)):F_watch_Watch_Frames (W.length:Int) (W++[w])=some f:=by
 subst hw
 unfold F_watch_Watch_Frames
 have hg:=getI_new (l:=W) (y:=((h,i,o,a,b,c,hi,m,win,wa,se,de,f,g):WD))
 rw [chk_t (getI_nn hg),hg,Option.bind_some]
theorem first_any:∃ w x y,F_wlvlaw27_first M W S P D T=some (true,M++[[]],W++[w],S,P++[x,y],D++[((T.length:Int),false)],T++[([],(0,4096))]):=by
  have hM:getI (M++[([]:MD)]) (M.length:Int)=some []:=getI_new
  have o1 : F_watch_Watch_Out (W.length : Int) [] (M ++ [[]]) (W ++ [w0 M P D]) S (P ++ [(16384, []), (16384, [])]) (D ++ [((T.length : Int), false)]) (T ++ [([], (0, 4096))]) =
      some (0,W++[w0 M P D],S,P++[(16384,[]),(16384,[])],D++[((T.length:Int),false)],T++[([],(0,4096))]):=by
    rw [out_at (getI_new (l:=W)) (getI_new1 (l:=P)) (by simp),set_new1]
    exact loop_inl (out_short (getI_new (l:=W)) (nx_short (getI_new1 (l:=P)) (by simp)))
  have o2 : F_watch_Watch_Out (W.length : Int) (fb 4 0 0 []) (M ++ [[]]) (W ++ [w0 M P D]) S (P ++ [(16384, []), (16384, [])]) (D ++ [((T.length : Int), false)]) (T ++ [([], (0, 4096))]) =
      some (0,W++[wAt M P D 0 false false false 0 65535 [] 1 false],S,P++[(16384,[]),(16384,[])],D++[((T.length:Int),false)],T++[([],(0,4096))]):=by
    rw [out_at (getI_new (l:=W)) (getI_new1 (l:=P)) (by rw [fb_len];simp),set_new1]
    refine loop_inr (out_step (P':=P++[(16384,[]),(16384,[])]) (getI_new (l:=W)) ?_ (right_settings (getI_new (l:=W)) rfl) (getI_new (l:=W)) (by omega)) ?_
    · have:=nx_fb (Ps:=P++[(16384,[]),(16384,fb 4 0 0 []++[])]) (rest:=[]) (ok4 false) (getI_new1 (l:=P)) (by simp)
      rw [set_new1] at this
      rw [List.append_nil] at this
      exact this
    · rw [set_new]
      exact loop_inl (out_short (getI_new (l:=W)) (nx_short (getI_new1 (l:=P)) (by simp)))
  have o3 : F_watch_Watch_Out (W.length : Int) (fb 5 0 1 []) (M ++ [[]]) (W ++ [wAt M P D 0 false false false 0 65535 [] 1 false]) S (P ++ [(16384, []), (16384, [])]) (D ++ [((T.length : Int), false)]) (T ++ [([], (0, 4096))]) =
      some (2,W++[wAt M P D 0 false false true 0 65535 [] 1 false],S,P++[(16384,[]),(16384,[])],D++[((T.length:Int),false)],T++[([],(0,4096))]):=by
    rw [out_at (getI_new (l:=W)) (getI_new1 (l:=P)) (by rw [fb_len];simp),set_new1]
    refine loop_inr (out_wrong (P':=P++[(16384,[]),(16384,[])]) (getI_new (l:=W)) ?_ (right_bad (getI_new (l:=W)) rfl (read5 0 1 []) rfl) (getI_new (l:=W))) ?_
    · have:=nx_fb (Ps:=P++[(16384,[]),(16384,fb 5 0 1 []++[])]) (rest:=[]) ok5 (getI_new1 (l:=P)) (by simp)
      rw [set_new1] at this
      rw [List.append_nil] at this
      exact this
    · rw [set_new]
      exact loop_inl (out_bad (getI_new (l:=W)))
  have o4 : F_watch_Watch_Out (W.length : Int) (fb 4 0 0 []) (M ++ [[]]) (W ++ [wAt M P D 0 false false true 0 65535 [] 1 false]) S (P ++ [(16384, []), (16384, [])]) (D ++ [((T.length : Int), false)]) (T ++ [([], (0, 4096))]) =
      some (2,W++[wAt M P D 0 false false true 0 65535 [] 1 false],S,P++[(16384,[]),(16384,fb 4 0 0 [])],D++[((T.length:Int),false)],T++[([],(0,4096))]):=by
    rw [out_at (getI_new (l:=W)) (getI_new1 (l:=P)) (by rw [fb_len];simp),set_new1]
    exact loop_inl (out_bad (getI_new (l:=W)))
  refine ⟨wAt M P D 0 false false true 0 65535 [] 1 false,(16384,[]),(16384,fb 4 0 0 []),?_⟩
  unfold F_wlvlaw27_first
  rw [new_at,Option.bind_some]
  dsimp only
  rw [show eqI (W.length:Int) (-1)=false from beq_eq_false_iff_ne.2 (by omega),cond_false,o1,Option.bind_some]
  dsimp only
  rw [show ((0:Int) != 0)=false from rfl,cond_false,fr_one W rfl,Option.bind_some,show ((0:Int) != 0)=false from rfl,cond_false,settings_eq false,Option.bind_some]
  dsimp only
  have p4:F_wlvref10_Put 4 (cond false 1 0) 0 []=some (fb 4 0 0 [],0):=put_eq (ok4 false)
  rw [p4,Option.bind_some,put_eq ok5,Option.bind_some]
  dsimp only
  rw [o2,Option.bind_some]
  dsimp only
  rw [show ((0:Int)==0)=true from rfl,cond_true,fr_one W rfl,Option.bind_some,show ((1:Int)==1)=true from rfl,cond_true,o3,Option.bind_some]
  dsimp only
  rw [show ((2:Int)==2)=true from rfl,cond_true,o4,Option.bind_some]
  rfl
end
def preL:List Int:=[80,82,73,32,42,32,72,84,84,80,47,50,46,48,13,10,13,10,83,77,13,10,13,10]
def be4 (n:Int):List Int:=[n / 16777216,n / 65536 % 256,n / 256 % 256,n % 256]
theorem ok_up {s n:Int} (hs:0<=s /\ s<=2147483647):okFb 8 0 s (be4 n):=⟨by omega,by omega,hs,by simp [be4]⟩
theorem ok_one {k fl s:Int} {b:List Int} (h:okFb k fl s b):okFbs [(k,fl,s,b)]:=fun f hfm=>by rw [List.mem_singleton.1 hfm];exact h
theorem ok_head {s:Int} {b:List Int} (hs:0<=s /\ s<=2147483647) (hb:b.length<=16384):okFb 1 4 s b:=⟨by omega,by omega,hs,hb⟩
section
variable {M : List MD} {W : List WD} {S : List SD} {P : List PD} {D : List DD} {T : List TD}
variable {head highest window frames : Int} {deaf blind bad gone : Bool} {waits : List (List (Int × Int))}
theorem get_in {X Y:List Int}:getI (P++[(16384,X),(16384,Y)]) (P.length:Int)=some (16384,X):=getI_new0
theorem get_out {X Y:List Int}:getI (P++[(16384,X),(16384,Y)]) ((P.length:Int)+1)=some (16384,Y):=getI_new1
end
def statusF:Fld:=([58,115,116,97,116,117,115],[50,48,48],false)
theorem get8:F_pint_Get [136] 7=some (8,1,0):=by decide +kernel
theorem stat8:F_stat_Get 8=some ([58,115,116,97,116,117,115],[50,48,48],false,true):=by decide +kernel
theorem size8:F_stat_Size [58,115,116,97,116,117,115] [50,48,48] false=some 42:=by decide +kernel
theorem at8 {l:List Int} {t i3 i4:Int} {l5:List Fld} {T:List TD}:F_unpack_block_at l t i3 i4 l5 8 T=some ([58,115,116,97,116,117,115],[50,48,48],false,true,l,t,i3,i4,l5):=by
 unfold F_unpack_block_at
 rw [show decide ((8:Int)<=61)=true from rfl,cond_true,stat8]
 rfl
theorem keep8 {l:List Int} {t:Int}:F_unpack_block_keep l t 2147483647 0 [] [58,115,116,97,116,117,115] [50,48,48] false=some (l,t,2147483647,42,[statusF]):=by
 unfold F_unpack_block_keep
 rw [size8,Option.bind_some,show decide (IntKind.i64.wrap (0+42)<=2147483647)=true from by decide +kernel,cond_true,chk_t (by decide +kernel)]
 rfl
set_option maxRecDepth 20000 in
theorem read88 {t:Int} {T:List TD}:F_unpack_block_read [136] t 2147483647 0 [] T=some (true,[],t,2147483647,42,[statusF],T):=by
 unfold F_unpack_block_read
 refine (join_inr (s:=(1,(false,0,false,[],[],false,[136],t,2147483647,0,[],T))) rfl).trans
  (loop_inr (s':=(4,(true,0,false,[58,115,116,97,116,117,115],[50,48,48],false,[],t,2147483647,0,[],T))) ?_
   (loop_inr (s':=(0,(true,0,true,[58,115,116,97,116,117,115],[50,48,48],false,[],t,2147483647,42,[statusF],T))) ?_ (loop_inl rfl)))
 ·show F_unpack_block_read_G1_1 (false,0,false,[],[],false,[136],t,2147483647,0,[],T)=_
  unfold F_unpack_block_read_G1_1 F_unpack_block_number
  dsimp only
  rw [get8,Option.bind_some]
  dsimp only
  rw [show ((0:Int) != 0)=false from rfl,cond_false,show cutI ([136]:List Int) 1 ((([136]:List Int).length:Nat):Int)=some [] from rfl,Option.bind_some,Option.bind_some]
  dsimp only
  rw [cond_true]
  rw [at8,Option.bind_some]
 ·unfold F_unpack_block_read_G1
  rw [show hasN [0] 4=false from rfl,cond_false,show hasN [1] 4=false from rfl,cond_false,show hasN [2] 4=false from rfl,cond_false,show hasN [3] 4=false from rfl,cond_false,show hasN [4] 4=true from rfl,cond_true]
  unfold F_unpack_block_read_G1_4
  dsimp only
  rw [Bool.not_true,cond_false,keep8,Option.bind_some]
section
variable {p : Int} {M : List MD} {W : List WD} {S : List SD} {P : List PD} {D : List DD} {T : List TD}
variable {head inn out highest m window dec frames : Int} {deaf blind bad gone : Bool} {waits : List (List (Int × Int))} {sets : Int × Int × Int × Int × Int × Int}
theorem decode88 {d t:Int} (hD:getI D d=some (t,false)):F_unpack_Dec_Decode d [136] 2147483647 D T=some ([statusF],0,D,T):=by
 have hd:=getI_nn hD
 unfold F_unpack_Dec_Decode
 rw [chk_t hd,hD,Option.bind_some]
 dsimp only
 rw [cond_false,show F_slices_Clone_byte_byte [136]=some [136] from rfl,Option.bind_some,chk_t hd,Option.bind_some,read88,Option.bind_some]
 rfl
theorem answers_ok {s j t z most:Int} {mm:MD} {w:Option Int} {d0:List Int} {l:List Fld} (hW:getI W p=some (head,inn,out,deaf,blind,bad,highest,m,window,waits,sets,dec,frames,gone)) (hM:getI M m=some mm) (hj:getZ (mapGet mm s) (-1:Int)=j) (hS:getI S j=some (w,false,false,false,d0))
  (hD:getI D dec=some (t,false)) (hT:getI T t=some (l,z,most)) (h1:1<=sets.2.2.2.2.1) (h2:most<=sets.1) :
  F_watch_Watch_answers p 1 4 s [136] [136] 0 0 0 0 [] false false true M W S D T=some (true,S.set j.toNat (w,true,false,false,d0),D,T):=by
 have hp:=getI_nn hW
 have hjn:=getI_nn hS
 have hj1:eqI j (-1)=false:=by
  have:0<=j:=of_decide_eq_true hjn
  exact beq_eq_false_iff_ne.2 (by omega)
 have hS1:=getI_set (x:=(w,true,false,false,d0)) hS
 have hdt:F_unpack_Dec_Table dec D=some t:=by
  unfold F_unpack_Dec_Table
  rw [chk_t (getI_nn hD),hD];rfl
 have hmo:F_dyn_Table_Most t T=some most:=by
  unfold F_dyn_Table_Most
  rw [chk_t (getI_nn hT),hT];rfl
 unfold F_watch_Watch_answers
 rw [live_one hW hM hj hS,Option.bind_some,hj1,cond_false,chk_t hp,hW,Option.bind_some]
 dsimp only
 rw [decide_eq_false (show ¬ ((([136]:List Int).length:Nat):Int) > sets.2.2.2.2.1 by show ¬ (1:Int) > _;omega),cond_false,chk_t hp,Option.bind_some,decode88 hD,Option.bind_some]
 dsimp only
 rw [show (((0:Int) != 0)||((([statusF].length:Nat):Int)==0))=false from rfl,cond_false,show getI [statusF] 0=some statusF from rfl,Option.bind_some,show (!(statusF.1==([58,115,116,97,116,117,115]:List Int)))=false from rfl,cond_false,chk_t hp,Option.bind_some,hdt,Option.bind_some,hmo,Option.bind_some,chk_t hp,Option.bind_some,
  decide_eq_false (show ¬ most > sets.1 by omega),cond_false,chk_t hjn,hS,Option.bind_some,chk_t hjn]
 dsimp only
 rw [hS1,Option.bind_some]
 dsimp only
 rw [set_two]
theorem nx_in {f:Fr4} {r:List Fr4} {Y:List Int} (h:okFbs (f::r)) (hr:r.length<=100):F_frame_Parser_Next (P.length:Int) (P++[(16384,fbs (f::r)),(16384,Y)])=some (f.1,f.2.1,f.2.2.1,f.2.2.2,0,P++[(16384,fbs r),(16384,Y)]):=by
 have hl:=fbs_len (l:=r) fun x hx=>h x (List.mem_cons_of_mem _ hx)
 have:=nx_fb (Ps:=P++[(16384,fb f.1 f.2.1 f.2.2.1 f.2.2.2++fbs r),(16384,Y)]) (rest:=fbs r) (h f List.mem_cons_self) (get_in (P:=P)) (by omega)
 rw [set_new0] at this
 exact this
theorem nx_out {f:Fr4} {r:List Fr4} {X:List Int} (h:okFbs (f::r)) (hr:r.length<=100):F_frame_Parser_Next ((P.length:Int)+1) (P++[(16384,X),(16384,fbs (f::r))])=some (f.1,f.2.1,f.2.2.1,f.2.2.2,0,P++[(16384,X),(16384,fbs r)]):=by
 have hl:=fbs_len (l:=r) fun x hx=>h x (List.mem_cons_of_mem _ hx)
 have:=nx_fb (Ps:=P++[(16384,X),(16384,fb f.1 f.2.1 f.2.2.1 f.2.2.2++fbs r)]) (rest:=fbs r) (h f List.mem_cons_self) (get_out (P:=P)) (by omega)
 rw [set_new1] at this
 exact this
end
theorem ok_data {fl s:Int} {b:List Int} (hf:0<=fl /\ fl < 256) (hs:0<=s /\ s<=2147483647) (hb:b.length<=16384):okFb 0 fl s b:=⟨by omega,hf,hs,hb⟩
theorem ok_rst {s c:Int} (hs:0<=s /\ s<=2147483647):okFb 3 0 s (be4 c):=⟨by omega,by omega,hs,by simp [be4]⟩
theorem ok_cons {f:Fr4} {r:List Fr4} (h:okFb f.1 f.2.1 f.2.2.1 f.2.2.2) (k:okFbs r):okFbs (f::r):=fun x hx=>by
 rcases List.mem_cons.1 hx with e | hx
 ·rw [e];exact h
 ·exact k x hx
section
variable (M : List MD) (W : List WD) (S : List SD) (P : List PD) (D : List DD) (T : List TD)
abbrev mm2:MD:=[(1,(S.length:Int)),(3,(S.length:Int)+1)]
abbrev sd (w:Int) (b e r:Bool) (d:List Int):SD:=(some w,b,e,r,d)
abbrev fS:Fr4:=(4,0,0,[])
abbrev fH (s x:Int):Fr4:=(1,4,s,[x])
abbrev fD (fl:Int) (b:List Int):Fr4:=(0,fl,1,b)
abbrev fU (s n:Int):Fr4:=(8,0,s,be4 n)
theorem j1:getZ (mapGet (mm2 S) 1) (-1:Int)=(S.length:Int):=rfl
theorem j3:getZ (mapGet (mm2 S) 3) (-1:Int)=(S.length:Int)+1:=rfl
theorem okH {s x:Int} (hs:0<=s /\ s<=2147483647):okFb 1 4 s [x]:=ok_head hs (by simp)
theorem okU {s n:Int} (hs:0<=s /\ s<=2147483647):okFb (fU s n).1 (fU s n).2.1 (fU s n).2.2.1 (fU s n).2.2.2:=ok_up hs
theorem okS:okFb 4 0 0 []:=ok4 false
variable {M W S P D T}
end
theorem shift_in {a b n:Int} (ha:InW a) (hb:InW b) (hn:InW n) (h:InW (a+n)):F_flow_Shift (fz a b) n=some (fz (a+n) b,false,false,0):=by
 have h1:=ha.1
 have h2:=ha.2
 have h3:=hn.1
 have h4:=hn.2
 have h5:=h.1
 have h6:=h.2
 unfold F_flow_Shift
 rw [parts_in ha hb,Option.bind_some]
 dsimp only
 rw [Bool.not_true,cond_false,cut_in hn,Option.bind_some,show (n != n)=false from by simp,cond_false,stream_in ha hb,Option.bind_some,wB64 (x:=a+n) (by omega) (by omega),decide_eq_false (show ¬ a+n > 2147483647 by omega),cond_false,Option.bind_some,conn_in ha hb,Option.bind_some,wB64 (x:=a+n) (by omega) (by omega),windows_in h hb,Option.bind_some]
theorem winStep_in {c n:Int} (hc:InW c) (hn:InW n) (h:InW (c+n)):winStep n c=some (c+n,false):=by
 unfold winStep
 rw [windows_in hc inW0,Option.bind_some,shift_in hc inW0 hn h,Option.bind_some]
 dsimp only
 rw [stream_in h inW0,Option.bind_some]
theorem apply_nil (a b c d e f:Int):F_sets_Apply a b c d e f []=some (a,b,c,d,e,f,false,false,0):=
 (join_inr (s:=(a,b,c,d,e,f,0,0,0,0,0,0,false,false,0)) (loop_inl rfl)).trans rfl
section
variable {p : Int} {M : List MD} {W : List WD} {S : List SD} {P : List PD} {D : List DD} {T : List TD}
variable {head inn out highest m window dec frames : Int} {deaf blind bad gone : Bool} {waits : List (List (Int × Int))} {sets : Int × Int × Int × Int × Int × Int}
theorem applies_none (hW:getI W p=some (head,inn,out,deaf,blind,bad,highest,m,window,[],sets,dec,frames,gone)):F_watch_Watch_applies p M W S=some (false,W,S):=by
 unfold F_watch_Watch_applies
 rw [chk_t (getI_nn hW),hW,Option.bind_some]
 rfl
theorem applies_nil (hW:getI W p=some (head,inn,out,deaf,blind,bad,highest,m,window,[[]],sets,dec,frames,gone)) (hok:apOk 0 p M (W.set p.toNat (head,inn,out,deaf,false,bad,highest,m,window,[],sets,dec,frames,gone)) S=true) :
  F_watch_Watch_applies p M W S=some (true,apW 0 p M (W.set p.toNat (head,inn,out,deaf,false,bad,highest,m,window,[],sets,dec,frames,gone)) S,apS 0 p M (W.set p.toNat (head,inn,out,deaf,false,bad,highest,m,window,[],sets,dec,frames,gone)) S):=by
 have hp:=getI_nn hW
 have he:eqI p p=true:=beq_self_eq_true p
 obtain ⟨s1,s2,s3,s4,s5,s6⟩:=sets
 have h1:=getI_set (x:=((head,inn,out,deaf,blind,bad,highest,m,window,[],(s1,s2,s3,s4,s5,s6),dec,frames,gone):WD)) hW
 unfold F_watch_Watch_applies
 rw [chk_t hp,hW,Option.bind_some]
 dsimp only
 rw [show ((([[]]:List (List (Int×Int))).length:Int)==0)=false from rfl,cond_false,chk_t hp,Option.bind_some,chk_t hp,Option.bind_some,show getI ([[]]:List (List (Int×Int))) 0=some [] from rfl,Option.bind_some,apply_nil,Option.bind_some,chk_t hp,Option.bind_some]
 dsimp only
 rw [show cutI ([[]]:List (List (Int×Int))) 1 ((([[]]:List (List (Int×Int))).length:Nat):Int)=some [] from rfl,Option.bind_some,chk_t hp,Option.bind_some,chk_t he,chk_t hp]
 dsimp only
 rw [h1,Option.bind_some,chk_t hp,Option.bind_some,chk_t hp]
 dsimp only
 rw [set_two,h1,Option.bind_some]
 dsimp only
 rw [set_two,Int.sub_self,show IntKind.i64.wrap 0=0 from rfl,chk_t hok]
theorem right_ack {x:Bool×List WD×List SD} (hW:getI W p=some (head,inn,out,deaf,blind,bad,highest,m,window,waits,sets,dec,frames,false)) (hf:(frames==0)=false) (ha:F_watch_Watch_applies p M W S=some x):F_watch_Watch_right p 4 1 0 [] M W S D T=some (x.1,x.2.1,x.2.2,D,T):=by
 have hp:=getI_nn hW
 have hr:F_part_Read 4 1 0 []=some ([],0,0,0,0,[],false,true,false,false,false,0):=read_settings true
 unfold F_watch_Watch_right chk
 rw [hr,Option.bind_some,hp,cond_true,hW,Option.bind_some]
 dsimp only
 rw [hf,cond_false]
 have e:((F_watch_Watch_applies p M W S).bind fun x13=>some (x13.1,x13.2.1,x13.2.2,D,T))=some (x.1,x.2.1,x.2.2,D,T):=by rw [ha,Option.bind_some]
 exact e
theorem read_goaway {l c:Int} (h0:0<=l) (h1:l<=2147483647) (h2:0<=c) (h3:c<=2147483647):F_part_Read 7 0 0 (be4 l++be4 c)=some ([],0,c,l,0,[],false,false,false,false,false,0):=by
 have hn:F_part_number (be4 l++be4 c)=some l:=by
  unfold F_part_number be4
  show some _=some _
  rw [num4 (by omega) (by omega) (by omega) (by omega)]
  congr 1
  omega
 have hc:F_part_number (be4 c)=some c:=by
  unfold F_part_number be4
  show some _=some _
  rw [num4 (by omega) (by omega) (by omega) (by omega)]
  congr 1
  omega
 have hm:bits .and .i64 l 2147483647=l:=by rw [and31 (by omega) (by omega)];omega
 have hcut:cutI (be4 l++be4 c) 4 (((be4 l++be4 c).length:Nat):Int)=some (be4 c):=cutI_end _ _ rfl rfl
 have e:F_part_Read 7 0 0 (be4 l++be4 c)=F_part_whole 7 0 0 (be4 l++be4 c):=eta12 (F_part_whole 7 0 0 (be4 l++be4 c))
 rw [e]
 unfold F_part_whole
 rw [show ((0:Int) != 0)=false from rfl,cond_false,decide_eq_false (show ¬ (((be4 l++be4 c).length:Nat):Int) < 8 from by show ¬ ((8:Nat):Int) < 8;omega),cond_false,show ((7:Int)==6)=false from rfl,cond_false,cond_false,hn,Option.bind_some,hcut,Option.bind_some,hc,Option.bind_some,hm]
theorem right_goaway {l c:Int} (h0:0<=l) (h1:l<=2147483647) (h2:0<=c) (h3:c<=2147483647) (hW:getI W p=some (head,inn,out,deaf,blind,bad,highest,m,window,waits,sets,dec,frames,false)) (hf:(frames==0)=false) :
  F_watch_Watch_right p 7 0 0 (be4 l++be4 c) M W S D T=some (true,W.set p.toNat (head,inn,out,deaf,blind,bad,highest,m,window,waits,sets,dec,frames,c != 0),S,D,T):=by
 have hp:=getI_nn hW
 unfold F_watch_Watch_right chk
 rw [read_goaway h0 h1 h2 h3,Option.bind_some,hp,cond_true,hW,Option.bind_some]
 dsimp only
 rw [hf,cond_false]
 rfl
theorem right_gone {k fl s:Int} {b:List Int} {y:PrtD} (hW:getI W p=some (head,inn,out,deaf,blind,bad,highest,m,window,waits,sets,dec,frames,true)) (hf:(frames==0)=false) (hr:F_part_Read k fl s b=some y):F_watch_Watch_right p k fl s b M W S D T=some (false,W,S,D,T):=by
 have hp:=getI_nn hW
 unfold F_watch_Watch_right chk
 rw [hr,Option.bind_some,hp,cond_true,hW,Option.bind_some]
 dsimp only
 rw [hf,cond_false]
 cases y.2.2.2.2.2.2.2.2.2.1 <;> rfl
theorem sends_none {fl s:Int} {b:List Int} {e:Bool} (hl:F_watch_Watch_live p s M W S=some (-1)):F_watch_Watch_sends p 0 fl s b b 0 0 0 0 [] e false false M W S=some (false,W,S):=by
 unfold F_watch_Watch_sends
 rw [hl,Option.bind_some]
 rfl
theorem live_ended {s j:Int} {mm:MD} {w:Option Int} {b1 b3:Bool} {d:List Int} (hW:getI W p=some (head,inn,out,deaf,blind,bad,highest,m,window,waits,sets,dec,frames,gone)) (hM:getI M m=some mm) (hj:getZ (mapGet mm s) (-1:Int)=j) (hS:getI S j=some (w,b1,true,b3,d)):F_watch_Watch_live p s M W S=some (-1):=by
 have hp:=getI_nn hW
 have hjn:=getI_nn hS
 have hj1:eqI j (-1)=false:=by
  have:0<=j:=of_decide_eq_true hjn
  exact beq_eq_false_iff_ne.2 (by omega)
 unfold F_watch_Watch_live
 rw [chk_t hp,hW,Option.bind_some]
 dsimp only
 rw [hM,Option.bind_some,hj,hj1,Bool.not_false,cond_true,chk_t hjn,hS,Option.bind_some]
 rfl
theorem sends_early {fl s j:Int} {b:List Int} {mm:MD} {e:Bool} {w:Option Int} {d:List Int} (hW:getI W p=some (head,inn,out,deaf,blind,bad,highest,m,window,waits,sets,dec,frames,gone)) (hM:getI M m=some mm) (hj:getZ (mapGet mm s) (-1:Int)=j) (hS:getI S j=some (w,false,false,false,d)) :
  F_watch_Watch_sends p 0 fl s b b 0 0 0 0 [] e false false M W S=some (false,W,S):=by
 have hjn:=getI_nn hS
 have hj1:eqI j (-1)=false:=by
  have:0<=j:=of_decide_eq_true hjn
  exact beq_eq_false_iff_ne.2 (by omega)
 unfold F_watch_Watch_sends
 rw [live_one hW hM hj hS,Option.bind_some,hj1,cond_false,chk_t hjn,hS,Option.bind_some]
 rfl
theorem sends_over {fl s j c:Int} {b:List Int} {mm:MD} {e:Bool} {d:List Int} (hW:getI W p=some (head,inn,out,deaf,blind,bad,highest,m,window,waits,sets,dec,frames,gone)) (hM:getI M m=some mm) (hj:getZ (mapGet mm s) (-1:Int)=j) (hS:getI S j=some (some c,true,false,false,d))
  (hb:(b.length:Int)<=sets.2.2.2.2.1) (hc:InW c) (hw:InW window) (h0:0 < (b.length:Int)) (h1:c < (b.length:Int) \/ window < (b.length:Int)):F_watch_Watch_sends p 0 fl s b b 0 0 0 0 [] e false false M W S=some (false,W,S):=by
 have hp:=getI_nn hW
 have hjn:=getI_nn hS
 have hj1:eqI j (-1)=false:=by
  have:0<=j:=of_decide_eq_true hjn
  exact beq_eq_false_iff_ne.2 (by omega)
 unfold F_watch_Watch_sends
 rw [live_one hW hM hj hS,Option.bind_some,hj1,cond_false,chk_t hjn,hS,Option.bind_some]
 dsimp only
 rw [Bool.not_true,cond_false,chk_t hp,hW,Option.bind_some]
 dsimp only
 rw [decide_eq_false (show ¬ (b.length:Int) > sets.2.2.2.2.1 by omega),cond_false,chk_t hjn,Option.bind_some]
 dsimp only
 rw [Option.bind_some,chk_t hp,Option.bind_some]
 dsimp only
 rw [windows_in hc hw,Option.bind_some,decide_eq_true (show (b.length:Int) > 0 by omega),cond_true,spend_over hc hw h0 h1,Option.bind_some]
 rfl
theorem get0v:F_pint_Get [128] 7=some (0,1,0):=by decide +kernel
theorem stat0:F_stat_Get 0=some ([],[],false,false):=by decide +kernel
set_option maxRecDepth 20000 in
theorem read80 {t:Int} {T:List TD}:F_unpack_block_read [128] t 2147483647 0 [] T=some (false,[],t,2147483647,0,[],T):=by
 unfold F_unpack_block_read
 refine (join_inr (s:=(1,(false,0,false,[],[],false,[128],t,2147483647,0,[],T))) rfl).trans
  (loop_inr (s':=(4,(false,0,false,[],[],false,[],t,2147483647,0,[],T))) ?_ (loop_inl rfl))
 show F_unpack_block_read_G1_1 (false,0,false,[],[],false,[128],t,2147483647,0,[],T)=_
 unfold F_unpack_block_read_G1_1 F_unpack_block_number
 dsimp only
 rw [get0v,Option.bind_some]
 dsimp only
 rw [show ((0:Int) != 0)=false from rfl,cond_false,show cutI ([128]:List Int) 1 ((([128]:List Int).length:Nat):Int)=some [] from rfl,Option.bind_some,Option.bind_some]
 dsimp only
 rw [cond_true]
 unfold F_unpack_block_at
 rw [show decide ((0:Int)<=61)=true from rfl,cond_true,stat0]
 rfl
theorem decode80 {d t:Int} (hD:getI D d=some (t,false)):F_unpack_Dec_Decode d [128] 2147483647 D T=some ([],2,D.set d.toNat (t,true),T):=by
 have hd:=getI_nn hD
 unfold F_unpack_Dec_Decode
 rw [chk_t hd,hD,Option.bind_some]
 dsimp only
 rw [cond_false,show F_slices_Clone_byte_byte [128]=some [128] from rfl,Option.bind_some,chk_t hd,Option.bind_some,read80,Option.bind_some]
 dsimp only
 rw [Bool.not_false,cond_true,chk_t hd,Option.bind_some]
theorem answers_wrong {s j t:Int} {mm:MD} {w:Option Int} {d0:List Int} {b1:Bool} (hW:getI W p=some (head,inn,out,deaf,blind,bad,highest,m,window,waits,sets,dec,frames,gone)) (hM:getI M m=some mm) (hj:getZ (mapGet mm s) (-1:Int)=j) (hS:getI S j=some (w,b1,false,false,d0))
  (hD:getI D dec=some (t,false)) (h1:1<=sets.2.2.2.2.1):F_watch_Watch_answers p 1 4 s [128] [128] 0 0 0 0 [] false false true M W S D T=some (false,S,D.set dec.toNat (t,true),T):=by
 have hp:=getI_nn hW
 have hjn:=getI_nn hS
 have hj1:eqI j (-1)=false:=by
  have:0<=j:=of_decide_eq_true hjn
  exact beq_eq_false_iff_ne.2 (by omega)
 unfold F_watch_Watch_answers
 rw [live_one hW hM hj hS,Option.bind_some,hj1,cond_false,chk_t hp,hW,Option.bind_some]
 dsimp only
 rw [decide_eq_false (show ¬ ((([128]:List Int).length:Nat):Int) > sets.2.2.2.2.1 by show ¬ (1:Int) > _;omega),cond_false,chk_t hp,Option.bind_some,decode80 hD,Option.bind_some]
 rfl
theorem right_update_reset {s n j:Int} {mm:MD} {w:Option Int} {b1 b2:Bool} {d:List Int} (h0:1<=n) (h1:n<=2147483647) (hW:getI W p=some (head,inn,out,deaf,blind,bad,highest,m,window,waits,sets,dec,frames,false)) (hf:(frames==0)=false) (hs:(s==0)=false) (hM:getI M m=some mm) (hj:getZ (mapGet mm s) (-1:Int)=j) (hS:getI S j=some (w,b1,b2,true,d)) :
  F_watch_Watch_right p 8 0 s (be4 n) M W S D T=some (false,W,S,D,T):=by
 have hp:=getI_nn hW
 have hjn:=getI_nn hS
 have hj1:eqI j (-1)=false:=by
  have:0<=j:=of_decide_eq_true hjn
  exact beq_eq_false_iff_ne.2 (by omega)
 have hr:F_part_Read 8 0 s (be4 n)=_:=read_update h0 h1
 unfold F_watch_Watch_right chk
 rw [hr,Option.bind_some,hp,cond_true,hW,Option.bind_some]
 dsimp only
 rw [hf,cond_false]
 have e:((getI M m).bind fun m55=>cond (s==0) (some (true,W,S,D,T)) (cond (!(eqI (getZ (mapGet m55 s) (-1:Int)) (-1))) (cond (nnI (getZ (mapGet m55 s) (-1:Int))) ((getI S (getZ (mapGet m55 s) (-1:Int))).bind fun x56=>some ((!x56.2.2.2.1),W,S,D,T)) none) (some (false,W,S,D,T))))=some (false,W,S,D,T):=by
  rw [hM,Option.bind_some,hs,cond_false,hj,hj1,Bool.not_false,cond_true,hjn,cond_true,hS,Option.bind_some]
  rfl
 exact e
end
theorem goaway_eq:F_wlvref10_Goaway 1 1=some (7,0,0,be4 1++be4 1):=by
 unfold F_wlvref10_Goaway
 have h4:F_wlvref10_num 1 4=some (beL 1 4):=num_eq 1 4 (by omega)
 rw [and31 (by decide) (by decide),show (1:Int) % 2147483648=1 from rfl,h4,Option.bind_some,Option.bind_some,chk_t (by rw [beL_len];decide +kernel),be4_eq (by decide) (by decide)]
 rfl
theorem ok_goaway:okFb 7 0 0 (be4 1++be4 1):=⟨by omega,by omega,by omega,by decide⟩
theorem ok_ack:okFb 4 1 0 []:=ok4 true
def Wrong (p out:Int) (f:Fr4) (M:List MD) (W:List WD) (S:List SD) (D:List DD) (T:List TD):Prop:=∃ (w2:WD) (W2:List WD) (S2:List SD) (D2:List DD) (T2:List TD),F_watch_Watch_right p f.1 f.2.1 f.2.2.1 f.2.2.2 M W S D T=some (false,W2,S2,D2,T2) /\ getI W2 p=some w2 /\ w2.2.2.1=out
section
variable {p : Int} {M : List MD} {W : List WD} {S : List SD} {P : List PD} {D : List DD} {T : List TD}
variable {head inn out highest m window dec frames : Int} {deaf gone : Bool} {waits : List (List (Int × Int))} {sets : Int × Int × Int × Int × Int × Int}
theorem fin_bad {f:Fr4} (hok:okFb f.1 f.2.1 f.2.2.1 f.2.2.2) (gW:getI W p=some (head,inn,out,deaf,false,false,highest,m,window,waits,sets,dec,frames,gone)) (gP:getI P out=some (16384,[])) (h:Wrong p out f M W S D T) :
  ∃ x,F_watch_Watch_Out p (fbs [f]) M W S P D T=some (2,x) /\ ∃ y,F_watch_Watch_Out p [] M x.1 x.2.1 x.2.2.1 x.2.2.2.1 x.2.2.2.2=some (2,y):=by
 obtain ⟨w2,W2,S2,D2,T2,hR,hW2,hout⟩:=h
 obtain ⟨head',inn',out',deaf',blind',bad',highest',m',window',waits',sets',dec',frames',gone'⟩:=w2
 have hout:out'=out:=hout
 subst hout
 have hb:=hok.2.2.2
 have gP2:getI (P.set out'.toNat (16384,[]++fbs [f])) out'=some (16384,fb f.1 f.2.1 f.2.2.1 f.2.2.2++[]):=getI_set gP
 have hN:=nx_fb hok gP2 (by simp)
 have gP3:=getI_set (x:=((16384:Int),([]:List Int))) gP2
 have gW3:=getI_set (x:=((head',inn',out',deaf',blind',true,highest',m',window',waits',sets',dec',frames',gone'):WD)) hW2
 refine ⟨(W2.set p.toNat (head',inn',out',deaf',blind',true,highest',m',window',waits',sets',dec',frames',gone'),S2,(P.set out'.toNat (16384,[]++fbs [f])).set out'.toNat (16384,[]),D2,T2),?_,?_⟩
 ·rw [out_at gW gP (by show 0+(fb f.1 f.2.1 f.2.2.1 f.2.2.2++[]).length<=_;rw [List.append_nil,fb_len];omega)]
  exact loop_inr (out_wrong gW hN hR hW2) (loop_inl (out_bad gW3))
 ·refine ⟨(W2.set p.toNat (head',inn',out',deaf',blind',true,highest',m',window',waits',sets',dec',frames',gone'),S2,((P.set out'.toNat (16384,[]++fbs [f])).set out'.toNat (16384,[])).set out'.toNat (16384,[]++[]),D2,T2),?_⟩
  dsimp only
  rw [out_at gW3 gP3 (by simp)]
  exact loop_inl (out_bad gW3)
theorem half {l23:List Fr4} {k:Int} {f:Fr4} (hg:getI l23 k=some f) (hok:okFb f.1 f.2.1 f.2.2.1 f.2.2.2) (gW:getI W p=some (head,inn,out,deaf,false,false,highest,m,window,waits,sets,dec,frames,gone)) (gP:getI P out=some (16384,[]))
    (h:∀ w:WD,Wrong p out f (M++[[]]) (W++[w]) S (D++[((T.length:Int),false)]) (T++[([],(0,4096))])) :
    ∃ z, ((F_wlvlaw27_first M W S P D T).bind fun x27 =>
                    cond x27.1
                    ((getI l23 k).bind fun x28=>
                      (F_wlvlaw27_frames ([(x28.1,x28.2.1,x28.2.2.1,x28.2.2.2)]:List (Int×Int×Int×List Int))).bind fun l29=>
                      (F_watch_Watch_Out p l29 x27.2.1 x27.2.2.1 x27.2.2.2.1 x27.2.2.2.2.1 x27.2.2.2.2.2.1 x27.2.2.2.2.2.2).bind fun x30=>
                      cond (x30.1==2)
                      ((F_watch_Watch_Out p ([]:List Int) x27.2.1 x30.2.1 x30.2.2.1 x30.2.2.2.1 x30.2.2.2.2.1 x30.2.2.2.2.2).bind fun x31=>
                        some ((x31.1==2),x27.2.1,x31.2.1,x31.2.2.1,x31.2.2.2.1,x31.2.2.2.2.1,x31.2.2.2.2.2))
                      (some (false,x27.2.1,x30.2.1,x30.2.2.1,x30.2.2.2.1,x30.2.2.2.2.1,x30.2.2.2.2.2)))
                    (some (false,x27.2.1,x27.2.2.1,x27.2.2.2.1,x27.2.2.2.2.1,x27.2.2.2.2.2.1,x27.2.2.2.2.2.2)))=some (true,z):=by
  obtain ⟨w,x,y,hf⟩:=first_any M W S P D T
  rw [hf,Option.bind_some]
  dsimp only
  rw [cond_true,hg,Option.bind_some]
  have hfr:F_wlvlaw27_frames [(f.1,f.2.1,f.2.2.1,f.2.2.2)]=some (fbs [f]):=frames_eq (by simp) (ok_one hok)
  rw [hfr,Option.bind_some]
  obtain ⟨z1,q1,z2,q2⟩:=fin_bad (p:=p) (M:=M++[[]]) (W:=W++[w]) (S:=S) (P:=P++[x,y]) (D:=D++[((T.length:Int),false)]) (T:=T++[([],(0,4096))]) hok (getI_app gW) (getI_app gP) (h w)
  rw [q1,Option.bind_some]
  dsimp only
  rw [show ((2:Int)==2)=true from rfl,cond_true,q2,Option.bind_some]
  exact ⟨_,rfl⟩
end
section
variable (M : List MD) (W : List WD) (S : List SD) (P : List PD) (D : List DD) (T : List TD)
abbrev mm1:MD:=[(1,(S.length:Int))]
theorem j11:getZ (mapGet (mm1 S) 1) (-1:Int)=(S.length:Int):=rfl
abbrev fA:Fr4:=(4,1,0,[])
theorem fi_in:F_watch_Watch_In (W.length:Int) (preL++fbs [fS,fH 1 130]) (M++[[]]) (W++[w0 M P D]) S (P++[(16384,[]),(16384,[])]) =
  some (M++[mm1 S],W++[wAt M P D 24 false false false 1 65535 [[]] 0 false],S++[sd 65535 false false false []],P++[(16384,[]),(16384,[])]):=by
 have ok2:okFbs [fH 1 130]:=ok_one (okH (s:=1) (by decide))
 have ok1:okFbs [fS,fH 1 130]:=ok_cons okS ok2
 have hM0:getI (M++[([]:MD)]) (M.length:Int)=some []:=getI_new
 rw [in_first (getI_new (l:=W)) (get_in (P:=P)) rfl (by have:=fbs_len ok1;simp at this ⊢;omega),set_new,set_new0,List.nil_append]
 refine loop_inr (in_step (getI_new (l:=W)) (nx_in ok1 (by simp)) (hears_settings (getI_new (l:=W)) (by simp))) ?_
 dsimp only
 rw [set_new]
 refine loop_inr (in_step (getI_new (l:=W)) (nx_in ok2 (by simp)) (hears_headers (getI_new (l:=W)) hM0 (by simp) rfl rfl (by decide))) ?_
 dsimp only
 rw [set_new,set_new]
 exact loop_inl (in_short (getI_new (l:=W)) (nx_short (get_in (P:=P)) (by simp [fbs])))
variable {M W S P D T}
theorem ap_top {c:Int} {y:Bool×Bool×Bool×List Int} {w1:WD} (hc:InW c) (hm:w1.2.2.2.2.2.2.2.1=(M.length:Int)) (hb:w1.2.2.2.2.1=false) :
  apOk 0 (W.length:Int) (M++[mm1 S]) (W++[w1]) (S++[(some c,y)])=true /\ apW 0 (W.length:Int) (M++[mm1 S]) (W++[w1]) (S++[(some c,y)])=W++[w1] /\ apS 0 (W.length:Int) (M++[mm1 S]) (W++[w1]) (S++[(some c,y)])=S++[(some c,y)]:=by
 have hes:apEs (M++[mm1 S]) (W++[w1]) (W.length:Int)=some (w1,mm1 S):=by
  unfold apEs
  rw [getI_new,Option.bind_some,hm,getI_new];rfl
 have hws:winStep 0 c=some (c,false):=by
  have:=winStep_in (c:=c) (n:=0) hc inW0 (by rw [Int.add_zero];exact hc)
  rwa [Int.add_zero] at this
 have hok:winOk 0 (S++[(some c,y)]) (1,(S.length:Int))=true:=by
  unfold winOk
  dsimp only
  rw [getI_new]
  dsimp only
  rw [hws]
 have hbad:winBad 0 (S++[(some c,y)]) (1,(S.length:Int))=false:=by
  unfold winBad
  dsimp only
  rw [getI_new]
  dsimp only
  rw [hws]
 refine ⟨?_,?_,?_⟩
 ·unfold apOk
  rw [hes]
  show (winOk 0 (S++[(some c,y)]) (1,(S.length:Int))&&true&&decide _)=true
  rw [hok,decide_eq_true (by simp)]
  rfl
 ·unfold apW
  rw [hes]
  show (W++[w1]).set _ (setBlind w1 (w1.2.2.2.2.1||(winBad 0 (S++[(some c,y)]) (1,(S.length:Int))||false)))=_
  rw [hbad,hb,set_new]
  have:setBlind w1 (false||(false||false))=w1:=by
   unfold setBlind
   rw [<-hb]
   simp
  rw [this]
 ·unfold apS
  rw [hes]
  show cond w1.2.2.2.2.1 _ ((S++[(some c,y)]).mapIdx fun j x=>cond (eqI (S.length:Int) (j:Int)||false) (winNew 0 (winBad 0 (S++[(some c,y)]) (1,(S.length:Int))||false) x) x)=_
  rw [hb,cond_false,hbad]
  apply List.ext_getElem?
  intro i
  rw [List.getElem?_mapIdx]
  by_cases hi:i < S.length
  ·rw [List.getElem?_append_left hi,List.getElem?_eq_getElem hi]
   show some (cond (eqI (S.length:Int) (i:Int)||false) _ _)=_
   have:eqI (S.length:Int) (i:Int)=false:=beq_eq_false_iff_ne.2 (by omega)
   rw [this]
   rfl
  ·rw [List.getElem?_append_right (by omega)]
   by_cases hi2:i=S.length
   ·subst hi2
    rw [Nat.sub_self]
    show some (cond (eqI (S.length:Int) (S.length:Int)||false) (winNew 0 (false||false) (some c,y)) (some c,y))=some (some c,y)
    have:eqI (S.length:Int) (S.length:Int)=true:=beq_self_eq_true _
    rw [this]
    show some (winNew 0 false (some c,y))=_
    unfold winNew
    rw [cond_false]
    dsimp only
    rw [hws]
   ·rw [List.getElem?_eq_none (by simp;omega)];rfl
theorem fi_out2:F_watch_Watch_Out (W.length:Int) (fbs [fS,fA]) (M++[mm1 S]) (W++[wAt M P D 24 false false false 1 65535 [[]] 0 false]) (S++[sd 65535 false false false []]) (P++[(16384,[]),(16384,[])]) (D++[((T.length:Int),false)]) (T++[([],(0,4096))]) =
  some (0,W++[wAt M P D 24 false false false 1 65535 [] 2 false],S++[sd 65535 false false false []],P++[(16384,[]),(16384,[])],D++[((T.length:Int),false)],T++[([],(0,4096))]):=by
 have ok2:okFbs [fA]:=ok_one ok_ack
 have ok1:okFbs [fS,fA]:=ok_cons okS ok2
 have hl:=fbs_len ok1
 rw [out_at (getI_new (l:=W)) (get_out (P:=P)) (by simp at hl ⊢;omega),set_new1,List.nil_append]
 refine loop_inr (out_step (getI_new (l:=W)) (nx_out ok1 (by simp)) (right_settings (getI_new (l:=W)) rfl) (getI_new (l:=W)) (by omega)) ?_
 rw [set_new]
 obtain ⟨a1,a2,a3⟩:=ap_top (M:=M) (W:=W) (S:=S) (c:=65535) (y:=(false,false,false,[])) (w1:=wAt M P D 24 false false false 1 65535 [] 1 false) ⟨by decide,by decide⟩ rfl rfl
 have hap:=applies_nil (p:=(W.length:Int)) (M:=M++[mm1 S]) (S:=S++[sd 65535 false false false []]) (getI_new (l:=W) (y:=wAt M P D 24 false false false 1 65535 [[]] 1 false)) (by rw [set_new];exact a1)
 rw [set_new,a2,a3] at hap
 refine loop_inr (out_step (getI_new (l:=W)) (nx_out ok2 (by simp)) (right_ack (getI_new (l:=W)) rfl hap) (getI_new (l:=W)) (by omega)) ?_
 rw [set_new]
 exact loop_inl (out_short (getI_new (l:=W)) (nx_short (get_out (P:=P)) (by simp [fbs])))
theorem fi_data {fl c win frames:Int} {b d:List Int} {r:List Fr4} {X:List Int} {hi:Int} {wa:List (List (Int×Int))} {e:Bool} (hok:okFbs (fD fl b::r)) (hr:r.length<=100) (h8:(bits .and .i64 fl 8==0)=true) (he:decide (bits .and .i64 fl 1 > 0)=e) (hc:InW c) (hw:InW win) (h1:(b.length:Int)<=c) (h2:(b.length:Int)<=win) (hd:d.length+b.length<=1000000000) (hf:1<=frames /\ frames<=1000000) :
  F_watch_Watch_Out_L3 (W.length:Int) (M++[mm1 S]) (W++[wAt M P D 24 false false false hi win wa frames false],S++[sd c true false false d],P++[(16384,X),(16384,fbs (fD fl b::r))],D++[((T.length:Int),false)],T++[([],(0,4096))]) =
   some (.inr (W++[wAt M P D 24 false false false hi (win - (b.length:Int)) wa (frames+1) false],S++[sd (c - (b.length:Int)) true e false (d++b)],P++[(16384,X),(16384,fbs r)],D++[((T.length:Int),false)],T++[([],(0,4096))])):=by
 have hb:b.length<=16384:=(hok _ List.mem_cons_self).2.2.2
 have hf0:(frames==0)=false:=beq_eq_false_iff_ne.2 (by omega)
 have hs:=sends_ok (p:=(W.length:Int)) (fl:=fl) (s:=1) (e:=e) (getI_new (l:=W) (y:=wAt M P D 24 false false false hi win wa frames false)) (getI_new (l:=M) (y:=mm1 S)) (j11 S) (getI_new (l:=S) (y:=sd c true false false d)) (by show (b.length:Int)<=16384;omega) hc hw h1 h2 hd
 rw [set_new,set_new] at hs
 have:=out_step (M:=M++[mm1 S]) (getI_new (l:=W)) (nx_out (P:=P) (X:=X) hok hr) (right_data (T:=T++[([],(0,4096))]) (D:=D++[((T.length:Int),false)]) (getI_new (l:=W)) hf0 hb rfl h8 (by rw [he];exact hs)) (getI_new (l:=W) (y:=wAt M P D 24 false false false hi (win - (b.length:Int)) wa frames false)) (by omega)
 rw [set_new] at this
 exact this
theorem fi_head {r : List Fr4} {X : List Int} (hok : okFbs (fH 1 136 :: r)) (hr : r.length <= 100) : F_watch_Watch_Out_L3 (W.length : Int) (M ++ [mm1 S]) (W ++ [wAt M P D 24 false false false 1 65535 [] 2 false], S ++ [sd 65535 false false false []], P ++ [(16384, X), (16384, fbs (fH 1 136 :: r))], D ++ [((T.length : Int), false)], T ++ [([], (0, 4096))]) =
      some (.inr (W++[wAt M P D 24 false false false 1 65535 [] 3 false],S++[sd 65535 true false false []],P++[(16384,X),(16384,fbs r)],D++[((T.length:Int),false)],T++[([],(0,4096))])):=by
  have gM:getI (M++[mm1 S]) (M.length:Int)=some (mm1 S):=getI_new
  have ha:=answers_ok (s:=1) (T:=T++[([],(0,4096))]) (D:=D++[((T.length:Int),false)]) (getI_new (l:=W) (y:=wAt M P D 24 false false false 1 65535 [] 2 false)) gM (j11 S) (getI_new (l:=S) (y:=sd 65535 false false false [])) getI_new getI_new (by show (1:Int)<=16384;decide) (by show (4096:Int)<=4096;decide)
  rw [set_new] at ha
  have:=out_step (M:=M++[mm1 S]) (getI_new (l:=W)) (nx_out (P:=P) (X:=X) hok hr) (right_head (getI_new (l:=W)) rfl (by simp) rfl ha) (getI_new (l:=W) (y:=wAt M P D 24 false false false 1 65535 [] 2 false)) (by omega)
  rw [set_new] at this
  exact this
end
section
variable {M : List MD} {W : List WD} {S : List SD} {P : List PD} {D : List DD} {T : List TD}
theorem ext_W {x w:WD}:getI (W++[x]++[w]) (W.length:Int)=some x:=getI_app getI_new
theorem ext_M {x y:MD}:getI (M++[x]++[y]) (M.length:Int)=some x:=getI_app getI_new
theorem wr {p out ty fl s:Int} {b:List Int} {w2:WD} {M:List MD} {W W2:List WD} {S S2:List SD} {D D2:List DD} {T T2:List TD} (hR:F_watch_Watch_right p ty fl s b M W S D T=some (false,W2,S2,D2,T2)) (g:getI W2 p=some w2) (ho:w2.2.2.1=out):Wrong p out (ty,fl,s,b) M W S D T:=⟨w2,W2,S2,D2,T2,hR,g,ho⟩
theorem wrong0 (w:WD):Wrong (W.length:Int) ((P.length:Int)+1) (fH 3 136) (M++[mm1 S]++[[]]) (W++[wAt M P D 24 false false false 1 65535 [] 2 false]++[w]) (S++[sd 65535 false false false []]) (D++[((T.length:Int),false)]++[(((T++[([],((0:Int),(4096:Int)))]).length:Int),false)]) (T++[([],(0,4096))]++[([],(0,4096))]):=
 wr (right_head ext_W rfl (by simp) rfl (answers_none ext_W ext_M rfl)) ext_W rfl
theorem wrong1 (w:WD):Wrong (W.length:Int) ((P.length:Int)+1) (fD 1 [1]) (M++[mm1 S]++[[]]) (W++[wAt M P D 24 false false false 1 65535 [] 2 false]++[w]) (S++[sd 65535 false false false []]) (D++[((T.length:Int),false)]++[(((T++[([],((0:Int),(4096:Int)))]).length:Int),false)]) (T++[([],(0,4096))]++[([],(0,4096))]):=
 wr (right_data ext_W rfl (by simp) rfl (by decide +kernel) (sends_early ext_W ext_M (j11 S) (getI_new (l:=S)))) ext_W rfl
theorem wrong2 {b d:List Int} (hb:b.length=16384) (w:WD) (c win:Int) (hc:InW c) (hw:InW win) (h1:c < 16384):Wrong (W.length:Int) ((P.length:Int)+1) (fD 0 b) (M++[mm1 S]++[[]]) (W++[wAt M P D 24 false false false 1 win [] 6 false]++[w]) (S++[sd c true false false d]) (D++[((T.length:Int),false)]++[(((T++[([],((0:Int),(4096:Int)))]).length:Int),false)]) (T++[([],(0,4096))]++[([],(0,4096))]):=by
 have hb2:b.length<=16384:=by omega
 have hb3:(b.length:Int)<=16384:=by omega
 have hb4:0 < (b.length:Int):=by omega
 have hb5:c < (b.length:Int):=by omega
 exact wr (right_data ext_W rfl hb2 rfl (by decide +kernel) (sends_over ext_W ext_M (j11 S) (getI_new (l:=S)) hb3 hc hw hb4 (.inl hb5))) ext_W rfl
theorem wrong3 (w:WD) (c win:Int) (d:List Int):Wrong (W.length:Int) ((P.length:Int)+1) (fD 1 [1]) (M++[mm1 S]++[[]]) (W++[wAt M P D 24 false false false 1 win [] 4 false]++[w]) (S++[sd c true true false d]) (D++[((T.length:Int),false)]++[(((T++[([],((0:Int),(4096:Int)))]).length:Int),false)]) (T++[([],(0,4096))]++[([],(0,4096))]):=
 wr (right_data ext_W rfl (by simp) rfl (by decide +kernel) (sends_none (live_ended ext_W ext_M (j11 S) (getI_new (l:=S))))) ext_W rfl
theorem wrong4 (w:WD):Wrong (W.length:Int) ((P.length:Int)+1) (fH 1 136) (M++[mm1 S]++[[]]) (W++[wAt M P D 24 false false false 1 65535 [] 3 true]++[w]) (S++[sd 65535 false false false []]) (D++[((T.length:Int),false)]++[(((T++[([],((0:Int),(4096:Int)))]).length:Int),false)]) (T++[([],(0,4096))]++[([],(0,4096))]):=
 wr (right_gone ext_W rfl ((read1 4 1 [136]).trans (bodied_head rfl (by decide +kernel) (by decide +kernel) (by simp)))) ext_W rfl
theorem wrong5 (w:WD):Wrong (W.length:Int) ((P.length:Int)+1) fA (M++[mm1 S]++[[]]) (W++[wAt M P D 24 false false false 1 65535 [] 2 false]++[w]) (S++[sd 65535 false false false []]) (D++[((T.length:Int),false)]++[(((T++[([],((0:Int),(4096:Int)))]).length:Int),false)]) (T++[([],(0,4096))]++[([],(0,4096))]):=
 wr (right_ack ext_W rfl (applies_none ext_W)) ext_W rfl
theorem wrong6 (w:WD):Wrong (W.length:Int) ((P.length:Int)+1) (fH 1 128) (M++[mm1 S]++[[]]) (W++[wAt M P D 24 false false false 1 65535 [] 2 false]++[w]) (S++[sd 65535 false false false []]) (D++[((T.length:Int),false)]++[(((T++[([],((0:Int),(4096:Int)))]).length:Int),false)]) (T++[([],(0,4096))]++[([],(0,4096))]):=
 wr (right_head ext_W rfl (by simp) rfl (answers_wrong ext_W ext_M (j11 S) (getI_new (l:=S)) (getI_app getI_new) (by show (1:Int)<=16384;decide))) ext_W rfl
theorem wrong7 (w:WD):Wrong (W.length:Int) ((P.length:Int)+1) (fU 1 5) (M++[mm1 S]++[[]]) (W++[wAt M P D 24 false false false 1 65535 [] 3 false]++[w]) (S++[sd 65535 false false true []]) (D++[((T.length:Int),false)]++[(((T++[([],((0:Int),(4096:Int)))]).length:Int),false)]) (T++[([],(0,4096))]++[([],(0,4096))]):=
 wr (right_update_reset (by decide) (by decide) ext_W rfl rfl ext_M (j11 S) (getI_new (l:=S))) ext_W rfl
theorem pre2 {b:List Int} (hb:b.length=16384):F_watch_Watch_Out (W.length:Int) (fbs [fH 1 136,fD 0 b,fD 0 b,fD 0 b]) (M++[mm1 S]) (W++[wAt M P D 24 false false false 1 65535 [] 2 false]) (S++[sd 65535 false false false []]) (P++[(16384,[]),(16384,[])]) (D++[((T.length:Int),false)]) (T++[([],(0,4096))]) =
  some (0,W++[wAt M P D 24 false false false 1 (65535 - (b.length:Int) - (b.length:Int) - (b.length:Int)) [] 6 false],S++[sd (65535 - (b.length:Int) - (b.length:Int) - (b.length:Int)) true false false (([]++b)++b++b)],P++[(16384,[]),(16384,[])],D++[((T.length:Int),false)],T++[([],(0,4096))]):=by
 have okD:okFb 0 0 1 b:=ok_data (by omega) (by omega) (by omega)
 have ok4':okFbs [fD 0 b]:=ok_one okD
 have ok3:okFbs [fD 0 b,fD 0 b]:=ok_cons okD ok4'
 have ok2:okFbs [fD 0 b,fD 0 b,fD 0 b]:=ok_cons okD ok3
 have ok1:okFbs [fH 1 136,fD 0 b,fD 0 b,fD 0 b]:=ok_cons (okH (s:=1) (by decide)) ok2
 have hl:=fbs_len ok1
 rw [out_at (getI_new (l:=W)) (get_out (P:=P)) (by simp at hl ⊢;omega),set_new1,List.nil_append]
 refine loop_inr (fi_head ok1 (by simp)) ?_
 refine loop_inr (fi_data (e:=false) ok2 (by simp) (by decide +kernel) (by decide +kernel) ⟨by omega,by omega⟩ ⟨by omega,by omega⟩ (by omega) (by omega) (by simp;omega) (by omega)) ?_
 refine loop_inr (fi_data (e:=false) ok3 (by simp) (by decide +kernel) (by decide +kernel) ⟨by omega,by omega⟩ ⟨by omega,by omega⟩ (by omega) (by omega) (by simp;omega) (by omega)) ?_
 refine loop_inr (fi_data (e:=false) ok4' (by simp) (by decide +kernel) (by decide +kernel) ⟨by omega,by omega⟩ ⟨by omega,by omega⟩ (by omega) (by omega) (by simp;omega) (by omega)) ?_
 exact loop_inl (out_short (getI_new (l:=W)) (nx_short (get_out (P:=P)) (by simp [fbs])))
theorem pre3:F_watch_Watch_Out (W.length:Int) (fbs [fH 1 136,fD 1 [1]]) (M++[mm1 S]) (W++[wAt M P D 24 false false false 1 65535 [] 2 false]) (S++[sd 65535 false false false []]) (P++[(16384,[]),(16384,[])]) (D++[((T.length:Int),false)]) (T++[([],(0,4096))]) =
  some (0,W++[wAt M P D 24 false false false 1 (65535 - 1) [] 4 false],S++[sd (65535 - 1) true true false [1]],P++[(16384,[]),(16384,[])],D++[((T.length:Int),false)],T++[([],(0,4096))]):=by
 have ok2:okFbs [fD 1 [1]]:=ok_one (ok_data (by omega) (by omega) (by simp))
 have ok1:okFbs [fH 1 136,fD 1 [1]]:=ok_cons (okH (s:=1) (by decide)) ok2
 have hl:=fbs_len ok1
 rw [out_at (getI_new (l:=W)) (get_out (P:=P)) (by simp at hl ⊢;omega),set_new1,List.nil_append]
 refine loop_inr (fi_head ok1 (by simp)) ?_
 refine loop_inr (fi_data (e:=true) ok2 (by simp) (by decide +kernel) (by decide +kernel) ⟨by omega,by omega⟩ ⟨by omega,by omega⟩ (by simp) (by simp) (by simp) (by omega)) ?_
 exact loop_inl (out_short (getI_new (l:=W)) (nx_short (get_out (P:=P)) (by simp [fbs])))
abbrev fG:Fr4:=(7,0,0,be4 1++be4 1)
abbrev fR1:Fr4:=(3,0,1,be4 8)
theorem pre4:F_watch_Watch_Out (W.length:Int) (fbs [fG]) (M++[mm1 S]) (W++[wAt M P D 24 false false false 1 65535 [] 2 false]) (S++[sd 65535 false false false []]) (P++[(16384,[]),(16384,[])]) (D++[((T.length:Int),false)]) (T++[([],(0,4096))]) =
  some (0,W++[wAt M P D 24 false false false 1 65535 [] 3 true],S++[sd 65535 false false false []],P++[(16384,[]),(16384,[])],D++[((T.length:Int),false)],T++[([],(0,4096))]):=by
 have ok1:okFbs [fG]:=ok_one ok_goaway
 have hl:=fbs_len ok1
 rw [out_at (getI_new (l:=W)) (get_out (P:=P)) (by simp at hl ⊢;omega),set_new1,List.nil_append]
 have hr:=right_goaway (l:=1) (c:=1) (M:=M++[mm1 S]) (S:=S++[sd 65535 false false false []]) (T:=T++[([],(0,4096))]) (D:=D++[((T.length:Int),false)]) (by decide) (by decide) (by decide) (by decide) (getI_new (l:=W) (y:=wAt M P D 24 false false false 1 65535 [] 2 false)) rfl
 rw [set_new] at hr
 refine loop_inr (out_step (getI_new (l:=W)) (nx_out ok1 (by simp)) hr (getI_new (l:=W)) (by omega)) ?_
 rw [set_new]
 exact loop_inl (out_short (getI_new (l:=W)) (nx_short (get_out (P:=P)) (by simp [fbs])))
theorem pre7:F_watch_Watch_Out (W.length:Int) (fbs [fR1]) (M++[mm1 S]) (W++[wAt M P D 24 false false false 1 65535 [] 2 false]) (S++[sd 65535 false false false []]) (P++[(16384,[]),(16384,[])]) (D++[((T.length:Int),false)]) (T++[([],(0,4096))]) =
  some (0,W++[wAt M P D 24 false false false 1 65535 [] 3 false],S++[sd 65535 false false true []],P++[(16384,[]),(16384,[])],D++[((T.length:Int),false)],T++[([],(0,4096))]):=by
 have ok1:okFbs [fR1]:=ok_one (ok_rst (s:=1) (c:=8) (by decide))
 have hl:=fbs_len ok1
 rw [out_at (getI_new (l:=W)) (get_out (P:=P)) (by simp at hl ⊢;omega),set_new1,List.nil_append]
 have hr:=right_rst (s:=1) (c:=8) (T:=T++[([],(0,4096))]) (D:=D++[((T.length:Int),false)]) (getI_new (l:=W) (y:=wAt M P D 24 false false false 1 65535 [] 2 false)) rfl rfl (by decide) (by decide) (getI_new (l:=M) (y:=mm1 S)) (j11 S) (getI_new (l:=S) (y:=sd 65535 false false false []))
 rw [set_new] at hr
 refine loop_inr (out_step (getI_new (l:=W)) (nx_out ok1 (by simp)) hr (getI_new (l:=W)) (by omega)) ?_
 rw [set_new]
 exact loop_inl (out_short (getI_new (l:=W)) (nx_short (get_out (P:=P)) (by simp [fbs])))
end
theorem fi_true (M:List MD) (W:List WD) (S:List SD) (P:List PD) (D:List DD) (T:List TD) (how:Int):∃ z,F_wlvlaw27_WatchFinds how M W S P D T=some (true,z):=by
  obtain ⟨w,x,y,h1⟩:=first_any M W S P D T
  unfold F_wlvlaw27_WatchFinds
  rw [h1,Option.bind_some]
  dsimp only
  rw [Bool.not_true,cond_false]
  generalize M++[[]]=M
  generalize W++[w]=W
  generalize P++[x,y]=P
  generalize D++[((T.length:Int),false)]=D
  generalize T++[([],((0:Int),(4096:Int)))]=T
  rw [new_at,Option.bind_some]
  dsimp only
  rw [show eqI (W.length:Int) (-1)=false from beq_eq_false_iff_ne.2 (by omega)]
  by_cases hr:how < 0 \/ how > 7
  · have e : ((false || (decide (how < 0))) || (decide (how > 7))) = true := by
      rcases hr with h | h <;> simp [h]
    rw [e,cond_true,Bool.not_false,cond_true]
    obtain ⟨w2,x2,y2,h2⟩:=first_any (M++[[]]) (W++[w0 M P D]) S (P++[(16384,[]),(16384,[])]) (D++[((T.length:Int),false)]) (T++[([],(0,4096))])
    rw [h2,Option.bind_some]
    exact ⟨_,rfl⟩
  rw [decide_eq_false (show ¬ how < 0 by omega),decide_eq_false (show ¬ how > 7 by omega),Bool.or_self,Bool.or_self,cond_false,settings_eq false,Option.bind_some]
  dsimp only
  have ok1:okFbs [fS,fH 1 130]:=ok_cons okS (ok_one (okH (s:=1) (by decide)))
  have fe1:F_wlvlaw27_frames [(4,cond false 1 0,0,[]),(1,4,1,[130])]=some (fbs [fS,fH 1 130]):=frames_eq (by simp) ok1
  rw [fe1,Option.bind_some,chk_t (by decide +kernel),chk_t (by decide +kernel),List.take_length]
  have a1:F_watch_Watch_In (W.length:Int) ([80,82,73,32,42,32,72,84,84,80,47,50,46,48,13,10,13,10,83,77,13,10,13,10]++fbs [fS,fH 1 130]) (M++[[]]) (W++[w0 M P D]) S (P++[(16384,[]),(16384,[])])=_:=fi_in M W S P D
  rw [a1,Option.bind_some,Option.bind_some,settings_eq true,Option.bind_some]
  dsimp only
  have fe2:F_wlvlaw27_frames [(4,cond false 1 0,0,[]),(4,cond true 1 0,0,[])]=some (fbs [fS,fA]):=frames_eq (by simp) (ok_cons okS (ok_one ok_ack))
  rw [fe2,Option.bind_some,fi_out2,Option.bind_some]
  dsimp only
  rw [show ((0:Int) != 0)=false from rfl,cond_false,fr_one W rfl,Option.bind_some,show ((2:Int) != 2)=false from rfl,cond_false,chk_t (by decide +kernel),goaway_eq,Option.bind_some,Option.bind_some,rst_eq (by decide) (by decide),Option.bind_some,update_eq (by decide) (by decide),Option.bind_some]
  dsimp only
  obtain ⟨b,hb⟩:∃ b,List.replicate (16384:Int).toNat (0:Int)=b:=⟨_,rfl⟩
  have hbl:b.length=16384:=by rw [<-hb,List.length_replicate];rfl
  rw [hb]
  have gW:∀ w1:WD,getI (W++[w1]) (W.length:Int)=some w1:=fun _=>getI_new
  have gP:getI (P++[(16384,[]),(16384,[])]) ((P.length:Int)+1)=some (16384,[]):=get_out
  have okD:okFb 0 0 1 b:=ok_data (by omega) (by omega) (by omega)
  have okD1:okFb 0 1 1 [1]:=ok_data (by omega) (by omega) (by simp)
  have hcase:how=0 \/ how=1 \/ how=2 \/ how=3 \/ how=4 \/ how=5 \/ how=6 \/ how=7:=by omega
  rcases hcase with rfl | rfl | rfl | rfl | rfl | rfl | rfl | rfl
  · rw [show getI (_::_::_::_::_::_::_::[_]:List (List Fr4)) 0=some _ from rfl,Option.bind_some]
    exact half (f:=fH 3 136) rfl (okH (s:=3) (by decide)) (gW _) gP (fun w=>wrong0 w)
  · rw [show getI (_::_::_::_::_::_::_::[_]:List (List Fr4)) 1=some _ from rfl,Option.bind_some]
    exact half (f:=fD 1 [1]) rfl okD1 (gW _) gP (fun w=>wrong1 w)
  · rw [show getI (_::_::_::_::_::_::_::[_]:List (List Fr4)) 2=some _ from rfl,Option.bind_some]
    have hc:cutI ([fH 1 136,fD 0 b,fD 0 b,fD 0 b,fD 0 b]:List Fr4) 0 (IntKind.i64.wrap ((([fH 1 136,fD 0 b,fD 0 b,fD 0 b,fD 0 b]:List Fr4).length:Int) - 1))=some [fH 1 136,fD 0 b,fD 0 b,fD 0 b]:=rfl
    have hf:F_wlvlaw27_frames [fH 1 136,fD 0 b,fD 0 b,fD 0 b]=some (fbs [fH 1 136,fD 0 b,fD 0 b,fD 0 b]):=frames_eq (by simp) (ok_cons (okH (s:=1) (by decide)) (ok_cons okD (ok_cons okD (ok_one okD))))
    rw [show decide ((([fH 1 136,fD 0 b,fD 0 b,fD 0 b,fD 0 b]:List Fr4).length:Int) > 1)=true from rfl,cond_true,hc,Option.bind_some,hf,Option.bind_some,pre2 hbl,Option.bind_some]
    exact half (f:=fD 0 b) rfl okD (gW _) gP (fun w=>wrong2 hbl w _ _ ⟨by omega,by omega⟩ ⟨by omega,by omega⟩ (by omega))
  · rw [show getI (_::_::_::_::_::_::_::[_]:List (List Fr4)) 3=some _ from rfl,Option.bind_some]
    have hc:cutI ([fH 1 136,fD 1 [1],fD 1 [1]]:List Fr4) 0 (IntKind.i64.wrap ((([fH 1 136,fD 1 [1],fD 1 [1]]:List Fr4).length:Int) - 1))=some [fH 1 136,fD 1 [1]]:=rfl
    have hf:F_wlvlaw27_frames [fH 1 136,fD 1 [1]]=some (fbs [fH 1 136,fD 1 [1]]):=frames_eq (by simp) (ok_cons (okH (s:=1) (by decide)) (ok_one okD1))
    rw [show decide ((([fH 1 136,fD 1 [1],fD 1 [1]]:List Fr4).length:Int) > 1)=true from rfl,cond_true,hc,Option.bind_some,hf,Option.bind_some,pre3,Option.bind_some]
    exact half (f:=fD 1 [1]) rfl okD1 (gW _) gP (fun w=>wrong3 w _ _ _)
  · rw [show getI (_::_::_::_::_::_::_::[_]:List (List Fr4)) 4=some _ from rfl,Option.bind_some]
    have hc:cutI ([fG,fH 1 136]:List Fr4) 0 (IntKind.i64.wrap ((([fG,fH 1 136]:List Fr4).length:Int) - 1))=some [fG]:=rfl
    have hf:F_wlvlaw27_frames [fG]=some (fbs [fG]):=frames_eq (by simp) (ok_one ok_goaway)
    rw [show decide ((([fG,fH 1 136]:List Fr4).length:Int) > 1)=true from rfl,cond_true,hc,Option.bind_some,hf,Option.bind_some,pre4,Option.bind_some]
    exact half (f:=fH 1 136) rfl (okH (s:=1) (by decide)) (gW _) gP (fun w=>wrong4 w)
  · rw [show getI (_::_::_::_::_::_::_::[_]:List (List Fr4)) 5=some _ from rfl,Option.bind_some]
    exact half (f:=fA) rfl ok_ack (gW _) gP (fun w=>wrong5 w)
  · rw [show getI (_::_::_::_::_::_::_::[_]:List (List Fr4)) 6=some _ from rfl,Option.bind_some]
    exact half (f:=fH 1 128) rfl (okH (s:=1) (by decide)) (gW _) gP (fun w=>wrong6 w)
  · rw [show getI (_::_::_::_::_::_::_::[_]:List (List Fr4)) 7=some _ from rfl,Option.bind_some]
    have hc:cutI ([fR1,fU 1 5]:List Fr4) 0 (IntKind.i64.wrap ((([fR1,fU 1 5]:List Fr4).length:Int) - 1))=some [fR1]:=rfl
    have hf:F_wlvlaw27_frames [fR1]=some (fbs [fR1]):=frames_eq (by simp) (ok_one (ok_rst (s:=1) (c:=8) (by decide)))
    have e7:decide ((([fR1,fU 1 5]:List Fr4).length:Int) > 1)=true:=rfl
    show ∃ z,cond (decide ((([fR1,fU 1 5]:List Fr4).length:Int) > 1)) ((cutI ([fR1,fU 1 5]:List Fr4) 0 (IntKind.i64.wrap ((([fR1,fU 1 5]:List Fr4).length:Int) - 1))).bind _) _=some (true,z)
    rw [e7,cond_true,hc,Option.bind_some,hf,Option.bind_some,pre7,Option.bind_some]
    exact half (f:=fU 1 5) rfl (okU (s:=1) (n:=5) (by decide)) (gW _) gP (fun w=>wrong7 w)
theorem WatchFinds_true (how:Int):∃ z,F_wlvlaw27_WatchFinds how [] [] [] [] [] []=some (true,z):=fi_true [] [] [] [] [] [] how
end Go.Proofs.YtifbhefbhlbofaaDoor
