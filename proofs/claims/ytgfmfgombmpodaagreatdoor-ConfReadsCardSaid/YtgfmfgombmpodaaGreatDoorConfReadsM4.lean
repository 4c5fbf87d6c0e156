/- Texts of this claim, one behind the other. -/
import Derived.Test.YtgfmfgombmpodaaGreatDoorConfReadsM3
import Derived.Shelf.Spec.SlicesInsertGrow
import Derived.Lib.Bytealg
import Derived.Lib.IndexLaws
import Derived.Laws.Bits
import Derived.Laws.RangeString
import Derived.Laws.RangeAny
import Derived.Lib.IndexBytes
import Ieee.Arith
import GoSem.Core.Float
import Derived.Deep.RegionWith
import Derived.BigRegion
import Derived.Lib.Builder
import Derived.Laws.ResultCell
set_option maxRecDepth 100000
namespace Go.Proofs.YtgfmfgombmpodaaGreatDoor
open Go.RowKit Go.Shelf Go.Lib Pv
set_option linter.unusedVariables false
def insZ (l:List Int) (g:Nat):List Int:=l.take g++List.replicate (16 - l.length) 0++l.drop g
theorem insZ_len {l:List Int} {g:Nat} (hg:g<=l.length) (hn:l.length < 16):(insZ l g).length=16:=by
 unfold insZ
 simp only [List.length_append,List.length_take,List.length_replicate,List.length_drop]
 omega
theorem insZ_get {l:List Int} {g:Nat} (hg:g<=l.length) (hn:l.length < 16) {j:Nat} {x:Int} (h:(insZ l g)[j]? = some x):(j < g /\ l[j]? = some x) \/ (g<=j /\ j < g+(16 - l.length) /\ x=0) \/ (g+(16 - l.length)<=j /\ j < 16 /\ l[j - (16 - l.length)]? = some x):=by
 have hj:j < 16:=by rw [<-insZ_len hg hn];exact (List.getElem?_eq_some_iff.1 h).1
 unfold insZ at h
 by_cases h1:j < g
 ·refine .inl ⟨h1,?_⟩
  rw [List.append_assoc,List.getElem?_append_left (by rw [List.length_take];omega),List.getElem?_take,if_pos h1] at h
  exact h
 ·by_cases h2:j < g+(16 - l.length)
  ·refine .inr (.inl ⟨by omega,h2,?_⟩)
   rw [List.append_assoc,List.getElem?_append_right (by rw [List.length_take];omega),List.getElem?_append_left (by rw [List.length_take,List.length_replicate];omega),List.getElem?_replicate] at h
   split at h
   ·injection h with h;exact h.symm
   ·cases h
  ·refine .inr (.inr ⟨by omega,hj,?_⟩)
   rw [List.getElem?_append_right (by rw [List.length_append,List.length_take,List.length_replicate];omega),List.getElem?_drop,List.length_append,List.length_take,List.length_replicate] at h
   rw [<-h]
   congr 1
   omega
def bv (l:List Int):List Value:=l.map (Value.int .u8)
theorem bv_len (l:List Int):(bv l).length=l.length:=by unfold bv;rw [List.length_map]
theorem bv_one (l:List Int):∀ v∈bv l,v.oneCell'=true:=fun v hv=>by
 obtain ⟨x,_,rfl⟩:=List.mem_map.1 hv
 rfl
theorem bv_get {l:List Int} {j:Nat} {v:Value} (h:(bv l)[j]? = some v):∃ x,l[j]? = some x /\ v=.int .u8 x:=by
 unfold bv at h
 rw [List.getElem?_map] at h
 obtain ⟨x,h1,h2⟩:=Option.map_eq_some_iff.1 h
 exact ⟨x,h1,h2.symm⟩
def zs (m:Nat):List Value:=bv (List.replicate m 0)
theorem zs_len (m:Nat):(zs m).length=m:=by unfold zs;rw [bv_len,List.length_replicate]
theorem sizeU (w:World):(Go.sizeOf 5).run Tryz.prog w=.ok 1 w:=by
 obtain ⟨i0,hi,h0,h1,h2⟩:=info_parts infoU
 simp [Go.sizeOf]
 rfl
theorem below_setCells {B b:Nat} (hb:B<=b):∀ (vs:List Value) (o:Nat) (w:World),Below B w (w.setCells b o vs)
 | [],_,w=>Below.refl _ _
 | v::r,o,w=>by
  rw [World.setCells]
  exact (show Below B w (w.setCell ⟨b,o,none⟩ v) from ⟨rfl,rfl,rfl,by simp [World.setCell],fun k hk=>by rw [setCell_heap,if_neg (by show k≠b;omega)]⟩).trans (below_setCells hb r (o+1) _)
theorem drew_below (B:Nat) (w:World):Below B w w.drew:=⟨rfl,rfl,rfl,Nat.le_refl _,fun _ _=>rfl⟩
def InRow (w:World) (N:Nat) (l:List Int) (vb:Nat) (sv:Value):Prop:=
 (∃ a,sv=.slice a 0 0 /\ l=[]) \/ ∃ b cap cur,sv=.slice (some ⟨b,0,none⟩) l.length cap /\ N<=b /\ b≠vb /\ w.heap[b]? = some (.cells cur 5 (0,0)) /\ l.length<=cap /\ cap<=maxLen /\ cur.size=cap /\ ∀ (i:Nat) (x:Int),l[i]? = some x->(cur:Array Value)[i]? = some (Value.int .u8 x)
def InsPost (N:Nat) (w:World) (l:List Int) (g:Nat) (e:Ending) (w':World):Prop:=
 ∃ B C,e=.returned (.slice (some ⟨B,0,none⟩) 16 C) /\ 16<=C /\ C<=maxLen /\ Below N w w' /\ ∀ j x,(insZ l g)[j]? = some x->w'.cell? ⟨B,j,none⟩=some (.int .u8 x)
def VRow (w:World) (vb m:Nat):Prop:=w.heap[vb]? = some (.cells (zs m).toArray 5 (0,0))
theorem vrow_cell {w:World} {vb m:Nat} (h:VRow w vb m):∀ j v,(zs m)[j]? = some v->w.cell? ((⟨vb,0,none⟩:Addr).add j)=some v:=fun j v hj=>by
 rw [add_at,cell_at h,Nat.zero_add]
 simpa using hj
theorem vrow_src {w:World} {vb m:Nat} (h:VRow w vb m):Src Tryz.prog 1 32 (.slice (some ⟨vb,0,none⟩) m m) m (zs m) w:=
 Src.ofSlice w Tryz.underlying32 ⟨vb,0,none⟩ m m (zs m) (by rw [zs_len,Nat.mul_one]) (vrow_cell h) (bv_one _)
theorem set_res {W:World} {B:Nat} {l:List Int} {g m:Nat} (hg:g<=l.length) (hn:l.length+m=16) (hm:0 < m) (h1:∀ j x,j < g->l[j]? = some x->W.cell? ⟨B,j,none⟩=some (.int .u8 x)) (h2:∀ j,j < m->W.cell? ⟨B,g+j,none⟩=some (.int .u8 0))
  (h3:∀ j x,g<=j->l[j]? = some x->W.cell? ⟨B,j+m,none⟩=some (.int .u8 x)):∀ j x,(insZ l g)[j]? = some x->W.cell? ⟨B,j,none⟩=some (.int .u8 x):=fun j x hj=>by
 have hm':16 - l.length=m:=by omega
 rcases insZ_get hg (by omega) hj with ⟨a,b⟩ | ⟨a,b,rfl⟩ | ⟨a,b,c⟩
 ·exact h1 j x a b
 ·have:=h2 (j - g) (by omega)
  rw [show g+(j - g)=j by omega] at this
  exact this
 ·rw [hm'] at a c
  have:=h3 (j - m) x (by omega) c
  rw [show j - m+m=j by omega] at this
  exact this
theorem end_run (l:List Int) (m:Nat) (hn:l.length+m=16) (hm:0 < m) (w:World) (N vb:Nat) (hN:N<=w.heap.size) (hv:VRow w vb m) (sv:Value) (hs:InRow w N l vb sv) :
    ∃ B C w',(∀ ty,(Builtin.append_ #[32,32] ty #[sv,.slice (some ⟨vb,0,none⟩) m m]).run Tryz.prog w=.ok (.slice (some ⟨B,0,none⟩) 16 C) w') /\ 16<=C /\ C<=maxLen /\ Below N w w' /\ ∀ j x,(insZ l l.length)[j]? = some x->w'.cell? ⟨B,j,none⟩=some (.int .u8 x):=by
  obtain ⟨i0,hi5,hz0,hz1,hz2⟩:=info_parts infoU
  have hsrc:=vrow_src hv
  have hsrc':Src Tryz.prog i0.size 32 (.slice (some ⟨vb,0,none⟩) m m) m (zs m) w:=by rw [hz1];exact hsrc
  have grow:∀ (base:Option Addr) (n c:Nat),n=l.length->c < n+m->(Builtin.firstCells i0.size n (.slice base n c)).run Tryz.prog w.drew=.ok (bv l).toArray w.drew -> ∃ B C w',(∀ ty,(Builtin.append_ #[32,32] ty #[.slice base n c,.slice (some ⟨vb,0,none⟩) m m]).run Tryz.prog w=.ok (.slice (some ⟨B,0,none⟩) 16 C) w') /\ 16<=C /\ C<=maxLen /\ Below N w w' /\ ∀ j x,(insZ l l.length)[j]? = some x->w'.cell? ⟨B,j,none⟩=some (.int .u8 x):=fun base n c hnl hc hold=>by
    subst hnl
    have hrun:=fun ty=>run_append_grow_src (P:=Tryz.prog) w 32 32 ty 5 i0 _ Tryz.underlying32 hi5 hz0 base l.length c (bv l) hold _ m (zs m) hsrc' hc (by omega) (by rw [hz2];exact growslice_fits hc (by omega))
    refine ⟨w.heap.size,grownCap w (l.length+m) c 5,_,fun ty=>by rw [hrun ty,hn],?_,?_,?_,?_⟩
    · have:=grownCap_ge w (l.length+m) c 5;omega
    · exact grownCap_le_maxLen w _ c 5 (by unfold maxLen;omega)
    · exact (drew_below N w).trans ((Below.refl N w.drew).alloc (show N<=w.drew.heap.size from hN) _)
    · refine set_res (Nat.le_refl _) hn hm (fun j x hj hx=>?_) (fun j hj=>?_) (fun j x hj hx=>?_)
      · rw [World.cell?_alloc_at (w:=w.drew) _ _ w.heap.size _ rfl]
        rw [Array.getElem?_append_left (by simp [bv_len,zs_len];omega)]
        simp only [List.getElem?_toArray]
        rw [List.getElem?_append_left (by rw [bv_len];exact hj)]
        unfold bv;rw [List.getElem?_map,hx];rfl
      · rw [World.cell?_alloc_at (w:=w.drew) _ _ w.heap.size _ rfl]
        rw [Array.getElem?_append_left (by simp [bv_len,zs_len];omega)]
        simp only [List.getElem?_toArray]
        rw [List.getElem?_append_right (by rw [bv_len];omega),bv_len,Nat.add_sub_cancel_left]
        unfold zs bv;rw [List.getElem?_map,List.getElem?_replicate,if_pos hj];rfl
      · have:=(List.getElem?_eq_some_iff.1 hx).1;omega
  rcases hs with ⟨a,rfl,rfl⟩ | ⟨b,cap,cur,rfl,hb,hbv,hcell,hcap,hmax,hsz,hel⟩
  · refine grow a 0 0 rfl (by simpa using hm) ?_
    cases a with
    | none=>exact run_firstCells_none w.drew _ 0 0 0
    | some a=>exact run_firstCells_some w.drew _ 0 a 0 0 [] (by simp) (fun j v hj=>by simp at hj)
  · have hcs : ∀ j v, (bv l)[j]? = some v -> w.cell? ((⟨b, 0, none⟩ : Addr).add j) = some v := fun j v hj => by
      obtain ⟨x,hx,rfl⟩:=bv_get hj
      rw [add_at,cell_at hcell,Nat.zero_add]
      exact hel j x hx
    by_cases hroom:l.length+m<=cap
    · have hc : ∀ j, j < (zs m).length -> (w.cell? ⟨b, 0 + l.length * i0.size + j, none⟩).isSome = true := fun j hj => by
        rw [zs_len] at hj
        rw [cell_at hcell,hz1,Array.getElem?_eq_getElem (by omega)];rfl
      have hf:∀ j,j < (zs m).length->w.frozen? ⟨b,0+l.length*i0.size+j,none⟩=false:=fun j hj=>by simp [World.frozen?,hcell]
      have hrun:=fun ty=>run_append_room_src (P:=Tryz.prog) w 32 32 ty 5 i0 Tryz.underlying32 hi5 b 0 l.length cap _ m (zs m) hsrc' hroom hc hf
      refine ⟨b,cap,_,fun ty=>by rw [hrun ty,hn],by omega,hmax,below_setCells hb _ _ _,?_⟩
      refine set_res (Nat.le_refl _) hn hm (fun j x hj hx=>?_) (fun j hj=>?_) (fun j x hj hx=>?_)
      · rw [World.cell?_setCells_out b _ _ _ _ (fun _ _=>.inl (by show j < _;rw [hz1];omega)),cell_at hcell]
        exact hel j x hx
      · have:=World.cell?_setCells_in b (zs m) (0+l.length*i0.size) w hc j (by rw [zs_len];exact hj)
        rw [hz1,Nat.zero_add,Nat.mul_one] at this ⊢
        rw [this]
        simp [zs,bv]
      · have:=(List.getElem?_eq_some_iff.1 hx).1;omega
    · refine grow (some ⟨b,0,none⟩) l.length cap rfl (by omega) ?_
      rw [hz1]
      exact run_firstCells_some w.drew 1 l.length ⟨b,0,none⟩ l.length cap (bv l) (by rw [bv_len,Nat.mul_one]) (fun j v hj=>hcs j v hj)
set_option maxHeartbeats 4000000 in
set_option maxRecDepth 1000000 in
theorem ins_end (l:List Int) (m:Nat) (hn:l.length+m=16) (hm:0 < m) (w:World) (N vb:Nat) (hN:N<=w.heap.size) (hv:VRow w vb m) (sv:Value) (hs:InRow w N l vb sv) :
  Calls Tryz.prog 243 #[sv,.int .i64 (l.length:Nat),.slice (some ⟨vb,0,none⟩) m m] w (InsPost N w l l.length):=by
 obtain ⟨B,C,w',hrun,h1,h2,h3,h4⟩:=end_run l m hn hm w N vb hN hv sv hs
 have hz1:¬ ((m:Int)=0):=by omega
 rcases hs with ⟨a,rfl,rfl⟩ | ⟨b,cap,cur,rfl,hb,hbv,hcell,hcap,hmax,hsz,hel⟩
 ·have hn0:(([]:List Int).length:Int)=0:=rfl
  rw [hn0]
  go_enter Tryz.func243,Tryz.ntmps243
  cases a with
  | none=>
   go_wp2_with (at_builtin;refine wpList_append_run _ rfl _ _ _ _ rfl _ _ rfl rfl _ _ (hrun _) ?_)
   go_ret
   exact ⟨B,C,rfl,h1,h2,h3,h4⟩
  | some a=>
   obtain ⟨ab,ao,asp⟩:=a
   go_wp2_with (at_builtin;refine wpList_append_run _ rfl _ _ _ _ rfl _ _ rfl rfl _ _ (hrun _) ?_)
   all_goals (go_ret;exact ⟨B,C,rfl,h1,h2,h3,h4⟩)
 ·go_enter Tryz.func243,Tryz.ntmps243
  go_wp2_with (at_builtin;refine wpList_append_run _ rfl _ _ _ _ rfl _ _ rfl rfl _ _ (hrun _) ?_)
  all_goals (go_ret;exact ⟨B,C,rfl,h1,h2,h3,h4⟩)
theorem sizeM:(Tryz.prog.info? 5).map (·.size)=some 1:=by kernel_rfl
set_option maxHeartbeats 4000000 in
set_option maxRecDepth 1000000 in
theorem ins_shift (l:List Int) (n m g c:Nat) (hl:l.length=n) (hn:n+m=16) (hm:0 < m) (hg:g < n) (hroom:n+m<=c) (hmax:c<=maxLen) (w:World) (N vb b:Nat) (cur:Array Value) (hb:N<=b) (hbv:b≠vb) (hv:VRow w vb m)
  (hcell:w.heap[b]? = some (.cells cur 5 (0,0))) (hsz:cur.size=c) (hel:∀ (i:Nat) x,l[i]? = some x->cur[i]? = some (Value.int .u8 x)) :
  Calls Tryz.prog 243 #[.slice (some ⟨b,0,none⟩) n c,.int .i64 g,.slice (some ⟨vb,0,none⟩) m m] w (InsPost N w l g):=by
 have hz1:¬ ((m:Int)=0):=by omega
 have hz2:¬ ((g:Int)=(n:Int)):=by omega
 have hc63:c<=9223372036854775807:=by unfold maxLen at hmax;omega
 have hcs:∀ j v,(bv l)[j]? = some v->w.cell? ⟨b,0+j,none⟩=some v:=fun j v hj=>by
  obtain ⟨x,hx,rfl⟩:=bv_get hj
  rw [cell_at hcell,Nat.zero_add]
  exact hel j x hx
 have hsp:∀ j,j < n+m->(w.cell? ⟨b,j,none⟩).isSome=true:=fun j hj=>by
  rw [cell_at hcell,Array.getElem?_eq_getElem (by omega)];rfl
 have hfz:∀ j,w.frozen? ⟨b,j,none⟩=false:=fun j=>by simp [World.frozen?,hcell]
 have hov:∀ lb cb,(callFunc 245 #[.slice (some ⟨vb,0,none⟩) m m,.slice (some ⟨b,g+m,none⟩) lb cb]).run Tryz.prog w=.ok (.value (.bool false)) w:=fun lb cb=>by
  rw [run_callFunc_extern Tryz.func245 (by kernel_rfl) (by kernel_rfl) (by kernel_rfl) (e:=Extern.SlicesOverlaps.overlaps #[32,32] #[4]) (by kernel_rfl),
   run_overlaps_apart w 32 4 5 Tryz.underlying32 1 sizeU ⟨vb,0,none⟩ ⟨b,g+m,none⟩ m m lb cb hbv.symm 5 5 (zs m).toArray.size c (by unfold VRow at hv;simp [World.shape?,hv]) (by simp [World.shape?,hcell,hsz]) (by omega) (by unfold VRow at hv;simp [World.frozen?,hv]) (by unfold VRow at hv;simp [World.frozen?,hv])]
  rfl
 have hdl:((bv l).drop g).length=n - g:=by rw [List.length_drop,bv_len,hl]
 have hcp1:∀ ty dc sc,(Builtin.copy_ #[32,32] ty #[.slice (some ⟨b,g+m,none⟩) (n+m - (g+m)) dc,.slice (some ⟨b,g,none⟩) (n+m - g) sc]).run Tryz.prog w.drew=.ok (goInt ((bv l).drop g).length) (w.drew.setCells b (g+m) ((bv l).drop g)):=fun ty dc sc=>
  run_copy_cells w.drew 32 32 ty 5 b (g+m) (n+m - (g+m)) dc ⟨b,g,none⟩ (n+m - g) sc _ Tryz.underlying32 sizeM (by rw [hdl];simp only [Nat.min_def];split <;> omega)
   (fun j v hj=>by rw [Addr.add_lit];have:=hcs (g+j) v (by rwa [List.getElem?_drop] at hj);rw [Nat.zero_add] at this;exact this)
   (fun j hj=>hsp _ (by omega)) (fun j _=>hfz _) (fun v hv=>bv_one l v (List.mem_of_mem_drop hv))
 obtain ⟨W1,hW1⟩:∃ W1,W1=w.drew.setCells b (g+m) ((bv l).drop g):=⟨_,rfl⟩
 have hsp1:∀ k,k < n+m->(W1.cell? ⟨b,k,none⟩).isSome=true:=fun k hk=>by
  rw [hW1]
  exact isSome_setCells b ((bv l).drop g) (g+m) w.drew (fun j hj=>hsp _ (by rw [hdl] at hj;omega)) k (hsp k hk)
 have hcp2:∀ (W:World),(∀ x,W.cell? x=W1.cell? x)->(∀ x,W.frozen? x=W1.frozen? x) -> ∀ ty dc,(Builtin.copy_ #[32,32] ty #[.slice (some ⟨b,g,none⟩) (n+m - g) dc,.slice (some ⟨vb,0,none⟩) m m]).run Tryz.prog W=.ok (goInt (zs m).length) (W.setCells b g (zs m)):=fun W hWc hWf ty dc=>
  run_copy_cells W 32 32 ty 5 b g (n+m - g) dc ⟨vb,0,none⟩ m m (zs m) Tryz.underlying32 sizeM (by rw [zs_len];simp only [Nat.min_def];split <;> omega)
   (fun j v hj=>by
    rw [hWc,hW1,World.cell?_setCells_out b _ _ _ _ (fun h _=>absurd ((add_block _ _).symm.trans h) hbv.symm)]
    exact vrow_cell hv j v hj)
   (fun j hj=>by rw [zs_len] at hj;rw [hWc];exact hsp1 _ (by omega)) (fun j _=>by rw [hWf,hW1,World.frozen?_setCells];exact hfz _) (bv_one _)
 rw [<-hW1] at hcp1
 have hmixed:Tryz.prog.follows .mixedOrders=true:=by kernel_rfl
 have hw1:IntKind.i64.wrap ((g:Int)+(m:Int))=(g:Int)+(m:Int):=by rw [IntKind.wrap_i64];omega
 have hb1:(0:Int)<=(g:Int)+(m:Int):=by omega
 have hin:g<=n:=by omega
 have htn:((g:Int)+(m:Int)).toNat=g+m:=by omega
 have hb2:¬ (c=g+m):=by omega
 have hb3:(g:Int)<=(n:Int)+(m:Int):=by omega
 have hb4:¬ (c=g):=by omega
 have fin:InsPost N w l g (.returned (.slice (some ⟨b,0,none⟩) (n+m) c)) (W1.setCells b g (zs m)):=by
  refine ⟨b,c,by rw [hn],by omega,hmax,?_,?_⟩
  ·rw [hW1]
   exact ((drew_below N w).trans (below_setCells hb _ _ _)).trans (below_setCells hb _ _ _)
  ·refine set_res (m:=m) (by omega) (by omega) hm (fun j x hj hx=>?_) (fun j hj=>?_) (fun j x hj hx=>?_)
   ·rw [World.cell?_setCells_out b _ _ _ _ (fun _ _=>.inl hj),hW1,World.cell?_setCells_out b _ _ _ _ (fun _ _=>.inl (by show j < _;omega))]
    have:=hcs j _ (show (bv l)[j]? = some (.int .u8 x) by unfold bv;rw [List.getElem?_map,hx];rfl)
    rw [Nat.zero_add] at this
    exact this
   ·have:=World.cell?_setCells_in b (zs m) g W1 (fun j hj=>by rw [zs_len] at hj;exact hsp1 _ (by omega)) j (by rw [zs_len];exact hj)
    rw [this]
    simp [zs,bv]
   ·have hjn:j < n:=by rw [<-hl];exact (List.getElem?_eq_some_iff.1 hx).1
    rw [World.cell?_setCells_out b _ _ _ _ (fun _ _=>.inr (by show _<=j+m;rw [zs_len];omega)),hW1]
    have hjd:j - g < ((bv l).drop g).length:=by rw [hdl];omega
    have:=World.cell?_setCells_in b ((bv l).drop g) (g+m) w.drew (fun i hi=>hsp _ (by omega)) (j - g) hjd
    rw [show g+m+(j - g)=j+m by omega] at this
    rw [this]
    have e:((bv l).drop g)[j - g]? = some (.int .u8 x):=by
     rw [List.getElem?_drop,show g+(j - g)=j by omega]
     unfold bv;rw [List.getElem?_map,hx];rfl
    rw [List.getElem?_eq_getElem hjd] at e
    exact e
 clear hcs hel hn
 go_enter Tryz.func243,Tryz.ntmps243
 go_wp2_with (simp only [hov])
 go_region_law_o (refine step_copy_runI rfl _ _ 32 32 rfl _ _ (by simp [Act.eval,Act.put]) (by simp [Act.eval,Act.put]) (hcp1 _ _ _) ?_)
 go_wp2_with (at_builtin;refine wpList_copy_runI _ rfl _ _ 32 32 rfl _ _ rfl rfl (hcp2 _ (fun _=>rfl) (fun _=>rfl) _ _) ?_)
 go_ret
 first | exact fin | (subst hW1;exact fin)
set_option maxHeartbeats 4000000 in
set_option maxRecDepth 1000000 in
theorem ins_grow (l:List Int) (n m g c:Nat) (hl:l.length=n) (hn:n+m=16) (hm:0 < m) (hg:g < n) (hnc:n<=c) (hroom:c < n+m) (w:World) (N vb b:Nat) (cur:Array Value) (hN:N<=w.heap.size) (hv:VRow w vb m)
    (hcell:w.heap[b]? = some (.cells cur 5 (0,0))) (hsz:cur.size=c) (hel:∀ (i:Nat) x,l[i]? = some x->cur[i]? = some (Value.int .u8 x)) :
    Calls Tryz.prog 243 #[.slice (some ⟨b,0,none⟩) n c,.int .i64 g,.slice (some ⟨vb,0,none⟩) m m] w (InsPost N w l g):=by
  obtain ⟨i0,hi5,hz0,hz1',hz2'⟩:=info_parts infoU
  have hz1:¬ ((m:Int)=0):=by omega
  have hz2:¬ ((g:Int)=(n:Int)):=by omega
  have hz3:(c:Int) < (n:Int)+(m:Int):=by omega
  have hcs:∀ j v,(bv l)[j]? = some v->w.cell? ⟨b,j,none⟩=some v:=fun j v hj=>by
    obtain ⟨x,hx,rfl⟩:=bv_get hj
    rw [cell_at hcell]
    exact hel j x hx
  have hbw:b < w.heap.size:=(Array.getElem?_eq_some_iff.1 hcell).1
  have hvw:vb < w.heap.size:=(Array.getElem?_eq_some_iff.1 hv).1
  have hkk:(n:Int)+(m:Int) - (g:Int)=((n+m - g:Nat):Int):=by omega
  have hik:g+(n+m - g)=n+m:=by omega
  have hold:(Builtin.firstCells i0.size g (.slice (some ⟨b,0,none⟩) g c)).run Tryz.prog w.drew=.ok ((bv l).take g).toArray w.drew:=by
    rw [hz1']
    exact run_firstCells_some w.drew 1 g ⟨b,0,none⟩ g c ((bv l).take g) (by rw [List.length_take,bv_len];omega) (fun j v hj=>by
      rw [add_at,Nat.zero_add]
      rw [List.getElem?_take] at hj
      split at hj
      · exact hcs j v hj
      · cases hj)
  obtain ⟨G,hG⟩:∃ G,G=grownCap w (n+m) c 5:=⟨_,rfl⟩
  obtain ⟨ROW,hROW⟩:∃ ROW:Array Value,ROW=((bv l).take g).toArray++Builtin.zeroCells (Value.int .u8 0).cells (n+m - g)++Builtin.zeroCells (Value.int .u8 0).cells (G - (n+m)):=⟨_,rfl⟩
  have hrz : ∀ ty, (Builtin.append_ #[32, 3] ty #[.slice (some ⟨b, 0, none⟩) g c, .int .i64 ((n : Int) + (m : Int) - (g : Int))]).run Tryz.prog w =
      .ok (.slice (some ⟨w.heap.size,0,none⟩) (n+m) G) (w.drew.alloc (.cells ROW 5)):=fun ty=>by
    have h:=run_append_grow_zeros (P:=Tryz.prog) w 32 3 ty 5 i0 _ .i64 .i64 Tryz.underlying32 Tryz.underlying3 hi5 hz0 (some ⟨b,0,none⟩) g c ((bv l).take g) hold (n+m - g) (by omega) (by omega) (by omega) (by omega) (by rw [hz2'];omega) (by rw [hz2',hik];exact growslice_fits hroom (by omega))
    rw [hik,<- hG] at h
    rw [hkk,hROW]
    exact h
  have hGn:n+m<=G:=by rw [hG];exact grownCap_ge w _ _ _
  have hGm:G<=maxLen:=by rw [hG];exact grownCap_le_maxLen w (n+m) c 5 (by unfold maxLen;omega)
  have hG63:G<=9223372036854775807:=by unfold maxLen at hGm;omega
  have hRl:n+m<=ROW.size:=by
    rw [hROW]
    simp [Builtin.zeroCells,Value.cells,bv_len]
    omega
  have hR1:∀ j x,j < g->l[j]? = some x->ROW[j]? = some (.int .u8 x):=fun j x hj hx=>by
    rw [hROW,Array.append_assoc,Array.getElem?_append_left (by simp [bv_len];omega)]
    simp only [List.getElem?_toArray]
    rw [List.getElem?_take,if_pos hj]
    unfold bv;rw [List.getElem?_map,hx];rfl
  clear hROW
  obtain ⟨W1,hW1⟩:∃ W1,W1=w.drew.alloc (.cells ROW 5):=⟨_,rfl⟩
  rw [<-hW1] at hrz
  have hNc:∀ j,W1.cell? ⟨w.heap.size,j,none⟩=ROW[j]?:=fun j=>by rw [hW1];exact World.cell?_alloc_at (w:=w.drew) ROW _ w.heap.size j rfl
  have hNs:∀ j,j < n+m->(W1.cell? ⟨w.heap.size,j,none⟩).isSome=true:=fun j hj=>by rw [hNc,Array.getElem?_eq_getElem (by omega)];rfl
  have hNf:∀ j,W1.frozen? ⟨w.heap.size,j,none⟩=false:=fun j=>by rw [hW1];exact World.frozen?_alloc_at (w:=w.drew) ROW _ w.heap.size j rfl
  have hOb:∀ j v,w.cell? ⟨b,j,none⟩=some v->W1.cell? ⟨b,j,none⟩=some v:=fun j v h=>by rw [hW1,World.cell?_alloc_past (w:=w.drew) _ b j hbw];exact h
  have hOv:∀ j v,w.cell? ⟨vb,j,none⟩=some v->W1.cell? ⟨vb,j,none⟩=some v:=fun j v h=>by rw [hW1,World.cell?_alloc_past (w:=w.drew) _ vb j hvw];exact h
  have hdl:((bv l).drop g).length=n - g:=by rw [List.length_drop,bv_len,hl]
  have hcpA:∀ (W:World),(∀ x,W.cell? x=W1.cell? x)->(∀ x,W.frozen? x=W1.frozen? x) -> ∀ ty dc,(Builtin.copy_ #[32,32] ty #[.slice (some ⟨w.heap.size,g,none⟩) (n+m - g) dc,.slice (some ⟨vb,0,none⟩) m m]).run Tryz.prog W=.ok (goInt (zs m).length) (W.setCells w.heap.size g (zs m)):=fun W hWc hWf ty dc=>
    run_copy_cells W 32 32 ty 5 w.heap.size g (n+m - g) dc ⟨vb,0,none⟩ m m (zs m) Tryz.underlying32 sizeM (by rw [zs_len];simp only [Nat.min_def];split <;> omega)
      (fun j v hj=>by
        have:=vrow_cell hv j v hj
        rw [add_at,Nat.zero_add] at this ⊢
        rw [hWc];exact hOv _ v this)
      (fun j hj=>by rw [zs_len] at hj;rw [hWc];exact hNs _ (by omega)) (fun j _=>by rw [hWf];exact hNf _) (bv_one _)
  have hbN:b≠w.heap.size:=by omega
  have hcpB:∀ (W:World),(∀ x,W.cell? x=(W1.setCells w.heap.size g (zs m)).cell? x)->(∀ x,W.frozen? x=(W1.setCells w.heap.size g (zs m)).frozen? x) -> ∀ ty dc sc,(Builtin.copy_ #[32,32] ty #[.slice (some ⟨w.heap.size,g+m,none⟩) (n+m - (g+m)) dc,.slice (some ⟨b,g,none⟩) (n - g) sc]).run Tryz.prog W=.ok (goInt ((bv l).drop g).length) (W.setCells w.heap.size (g+m) ((bv l).drop g)):=fun W hWc hWf ty dc sc=>
    run_copy_cells W 32 32 ty 5 w.heap.size (g+m) (n+m - (g+m)) dc ⟨b,g,none⟩ (n - g) sc _ Tryz.underlying32 sizeM (by rw [hdl];simp only [Nat.min_def];split <;> omega)
      (fun j v hj=>by
        rw [Addr.add_lit,hWc,World.cell?_setCells_out _ _ _ _ _ (fun h _=>absurd h hbN)]
        exact hOb _ v (hcs (g+j) v (by rwa [List.getElem?_drop] at hj)))
      (fun j hj=>by rw [hdl] at hj;rw [hWc];exact isSome_setCells w.heap.size (zs m) g W1 (fun t ht=>by rw [zs_len] at ht;exact hNs _ (by omega)) (g+m+j) (hNs _ (by omega)))
      (fun j _=>by rw [hWf,World.frozen?_setCells];exact hNf _) (fun v hv=>bv_one l v (List.mem_of_mem_drop hv))
  have fin:∀ W2:World,(∀ x,W2.cell? x=(W1.setCells w.heap.size g (zs m)).cell? x)->Below N w W2->InsPost N w l g (.returned (.slice (some ⟨w.heap.size,0,none⟩) (n+m) G)) (W2.setCells w.heap.size (g+m) ((bv l).drop g)):=fun W2 hWc hbel=>by
    have hs2:∀ k,k < n+m->(W2.cell? ⟨w.heap.size,k,none⟩).isSome=true:=fun k hk=>by
      rw [hWc]
      exact isSome_setCells w.heap.size (zs m) g W1 (fun t ht=>by rw [zs_len] at ht;exact hNs _ (by omega)) k (hNs k hk)
    refine ⟨w.heap.size,G,by rw [hn],by omega,hGm,hbel.trans (below_setCells hN _ _ _),?_⟩
    refine set_res (m:=m) (by omega) (by omega) hm (fun j x hj hx=>?_) (fun j hj=>?_) (fun j x hj hx=>?_)
    · rw [World.cell?_setCells_out _ _ _ _ _ (fun _ _=>.inl (by show j < _;omega)),hWc,World.cell?_setCells_out _ _ _ _ _ (fun _ _=>.inl hj),hNc]
      exact hR1 j x hj hx
    · rw [World.cell?_setCells_out _ _ _ _ _ (fun _ _=>.inl (by show g+j < _;omega)),hWc]
      have:=World.cell?_setCells_in w.heap.size (zs m) g W1 (fun j hj=>by rw [zs_len] at hj;exact hNs _ (by omega)) j (by rw [zs_len];exact hj)
      rw [this]
      simp [zs,bv]
    · have hjn:j < n:=by rw [<-hl];exact (List.getElem?_eq_some_iff.1 hx).1
      have hjd:j - g < ((bv l).drop g).length:=by rw [hdl];omega
      have:=World.cell?_setCells_in w.heap.size ((bv l).drop g) (g+m) W2 (fun i hi=>hs2 _ (by omega)) (j - g) hjd
      rw [show g+m+(j - g)=j+m by omega] at this
      rw [this]
      have e:((bv l).drop g)[j - g]? = some (.int .u8 x):=by
        rw [List.getElem?_drop,show g+(j - g)=j by omega]
        unfold bv;rw [List.getElem?_map,hx];rfl
      rw [List.getElem?_eq_getElem hjd] at e
      exact e
  have hbel1:Below N w W1:=by rw [hW1];exact (drew_below N w).trans ((Below.refl N w.drew).alloc (show N<=w.drew.heap.size from hN) _)
  have hmixed:Tryz.prog.follows .mixedOrders=true:=by kernel_rfl
  have hGi:¬ (G=g):=by omega
  have hGim:¬ (G=g+m):=by omega
  have hci:¬ (c=g):=by omega
  have hw1:IntKind.i64.wrap ((g:Int)+(m:Int))=(g:Int)+(m:Int):=by rw [IntKind.wrap_i64];omega
  have hb1:(0:Int)<=(g:Int)+(m:Int):=by omega
  have hin:g<=n:=by omega
  have htn:((g:Int)+(m:Int)).toNat=g+m:=by omega
  have hb3:(g:Int)<=(n:Int):=by omega
  subst hW1
  have hE1:∀ x,((w.alloc (.cells ROW 5)).drew).cell? x=(w.drew.alloc (.cells ROW 5)).cell? x:=fun x=>rfl
  have hE2:∀ x,((w.alloc (.cells ROW 5)).drew).frozen? x=(w.drew.alloc (.cells ROW 5)).frozen? x:=fun x=>rfl
  have hF1:∀ x,(((w.alloc (.cells ROW 5)).drew.setCells w.heap.size g (zs m)).drew).cell? x=((w.drew.alloc (.cells ROW 5)).setCells w.heap.size g (zs m)).cell? x:=fun x=>rfl
  have hF2:∀ x,(((w.alloc (.cells ROW 5)).drew.setCells w.heap.size g (zs m)).drew).frozen? x=((w.drew.alloc (.cells ROW 5)).setCells w.heap.size g (zs m)).frozen? x:=fun x=>rfl
  have hbelF:Below N w (((w.alloc (.cells ROW 5)).drew.setCells w.heap.size g (zs m)).drew):=(hbel1.trans (below_setCells hN (zs m) g _)).trans (drew_below N _)
  clear hkk hik hold hcs hel hG hRl hn hR1 hNc hNs hNf hOb hOv
  go_enter Tryz.func243,Tryz.ntmps243
  go_wp2_with (first
    | (at_builtin;refine wpList_append_run _ rfl _ _ _ _ rfl _ _ rfl rfl _ _ (hrz _) ?_)
    | (at_builtin;refine wpList_copy_runI _ rfl _ _ 32 32 rfl _ _ rfl rfl (hcpA _ hE1 hE2 _ _) ?_)
    | (at_builtin;refine wpList_copy_runI _ rfl _ _ 32 32 rfl _ _ rfl rfl (hcpB _ (fun _=>rfl) (fun _=>rfl) _ _ _) ?_))
  go_region_law_o (refine step_copy_runI rfl _ _ 32 32 rfl (.slice (some ⟨w.heap.size,g+m,none⟩) (n+m - (g+m)) (G - (g+m))) (.slice (some ⟨b,g,none⟩) (n - g) (c - g)) (by simp [Act.eval,Act.put]) (by simp [Act.eval,Act.put]) (hcpB _ hF1 hF2 3 (G - (g+m)) (c - g)) ?_)
  go_wp2
  go_ret
  exact fin _ hF1 hbelF
theorem insert_calls (l:List Int) (g m:Nat) (hn:l.length+m=16) (hm:0 < m) (hg:g<=l.length) (w:World) (N vb:Nat) (hN:N<=w.heap.size) (hv:VRow w vb m) (sv:Value) (hs:InRow w N l vb sv) :
  Calls Tryz.prog 243 #[sv,.int .i64 g,.slice (some ⟨vb,0,none⟩) m m] w (InsPost N w l g):=by
 rcases Nat.eq_or_lt_of_le hg with rfl | hlt
 ·exact ins_end l m hn hm w N vb hN hv sv hs
 ·rcases hs with ⟨a,rfl,rfl⟩ | ⟨b,cap,cur,rfl,hb,hbv,hcell,hcap,hmax,hsz,hel⟩
  ·exact absurd hlt (Nat.not_lt_zero _)
  ·by_cases hroom:l.length+m<=cap
   ·exact ins_shift l l.length m g cap rfl hn hm hlt hroom hmax w N vb b cur hb hbv hv hcell hsz hel
   ·exact ins_grow l l.length m g cap rfl hn hm hlt hcap (by omega) w N vb b cur hN hv hcell hsz hel
def insOk (l:List Int) (g:Int):Bool:=decide (0<=g)&&decide (g<=(l.length:Int))&&Nat.blt l.length 16
def insSt (l:List Int) (g:Int):PSt:=⟨fun i=>match Nat.beq i 2 with | true=>pstr (insZ l g.toNat) | false=>match Nat.beq i 3 with | true=>pbool true | false=>.dead,fun _=>none,fun _=>false,[],[],[]⟩
def insTail (st:PSt):Option (Bool×PSt):=
 match st.φ 4,st.φ 5 with
 | .w false [.own k E (.int .u8) l],.w false [.d (.int .i64) g]=>match st.O k&&Nat.beq E 5 with
  | true=>some (insOk l g,insSt l g)
  | false=>none
 | _,_=>none
end Go.Proofs.YtgfmfgombmpodaaGreatDoor
namespace Go.Proofs.YtgfmfgombmpodaaGreatDoor
open Pv Go.RowKit
set_option linter.unusedVariables false
def idxI:List Int->Int->Int
 | [],_=>-1
 | x::r,c=>cond (x==c) 0 (cond (idxI r c == -1) (-1) (idxI r c+1))
theorem idx_lib:∀ (l:List UInt8) (c:UInt8),Lib.indexByte l c=idxI (l.map byteI) (byteI c)
 | [],_=>rfl
 | b::l,c=>by
  have ih:=idx_lib l c
  show (if b==c then 0 else if Lib.indexByte l c == -1 then -1 else Lib.indexByte l c+1)=cond (byteI b==byteI c) 0 (cond (idxI (l.map byteI) (byteI c) == -1) (-1) (idxI (l.map byteI) (byteI c)+1))
  rw [ih]
  have e:(byteI b==byteI c)=(b==c):=by
   by_cases h:b=c
   ·subst h;simp
   ·have:byteI b≠byteI c:=fun e=>h (UInt8.toNat_inj.1 (by unfold byteI at e;exact Int.ofNat.inj e))
    rw [beq_eq_false_iff_ne.2 this,beq_eq_false_iff_ne.2 h]
  rw [e]
  cases b==c <;> cases idxI (l.map byteI) (byteI c) == -1 <;> rfl
theorem idxI_in:∀ (l:List Int) (c:Int),-1<=idxI l c /\ idxI l c < l.length
 | [],c=>⟨Int.le_refl _,by show (-1:Int) < 0;decide⟩
 | x::l,c=>by
  obtain ⟨h1,h2⟩:=idxI_in l c
  unfold idxI
  cases x==c
  ·cases h:idxI l c == -1
   ·show -1<=idxI l c+1 /\ idxI l c+1 < _
    rw [List.length_cons];omega
   ·show -1<=(-1:Int) /\ (-1:Int) < _
    rw [List.length_cons];omega
  ·show -1<=(0:Int) /\ (0:Int) < _
   rw [List.length_cons];omega
set_option maxHeartbeats 2000000 in
theorem index_one (s:ByteArray) (c:UInt8) (w:World) :
  Calls Tryz.prog 195 #[.string s,.string ⟨#[c]⟩] w fun e w'=>e=.returned (.int .i64 (Lib.indexByte s.data.toList c)) /\ Below w.heap.size w w':=by
 have hsz:(⟨#[c]⟩:ByteArray).size=1:=rfl
 go_enter Tryz.func195,Tryz.ntmps195
 go_wp2_with (go_at_call 218;refine (Tryz.stringslite_IndexByte s _ _).mono ?_)
 ·rename_i hq
  go_ret
  have e:s.data.toList=[c]:=by
   rw [ByteArray.toList_eq] at hq
   exact (beq_iff_eq.1 hq).symm
  have e2:Lib.indexByte s.data.toList c=0:=by
   rw [e]
   show (if c==c then (0:Int) else _)=0
   rw [beq_self_eq_true];rfl
  exact ⟨by rw [e2];rfl,Below.refl _ _⟩
 ·rintro e w' ⟨rfl,rfl⟩
  go_wp2
  go_ret
  exact ⟨rfl,Below.refl _ _⟩
def F_internal_stringslite_Index_sig:Sig:=⟨[.v false [.d .str],.v false [.d .str]],[(false,[.d (.int .i64)])]⟩
def F_internal_stringslite_Index (s t:List Int):Option Int:=match t with
 | [c]=>some (idxI s c)
 | _=>none
theorem ent_ix (l m:List Int):(entrySt F_internal_stringslite_Index_sig [⟨.str,l⟩,⟨.str,m⟩]).map (fun st=>(st.φ 0,st.φ 1))=some (.w false [.d .str l],.w false [.d .str m]):=rfl
theorem exit_ix (y:Int):∃ st',exitSt F_internal_stringslite_Index_sig y=some st' /\ st'.φ 0=.w false [.d (.int .i64) y] /\ (∀ i,st'.φ (i+1)=.dead) /\ (∀ k,st'.L k=none) /\ (∀ k,st'.O k=true->k=.zero) /\ st'.kn=[] /\ st'.fr=[]:=
 ⟨_,rfl,rfl,fun _=>rfl,fun k=>by match k with | 0=>rfl | 1=>rfl | _+2=>rfl,fun k hk=>by
  have hk:hasT [.zero] k=true:=hk
  simpa using hasT_iff.1 hk,rfl,rfl⟩
theorem F_internal_stringslite_Index_sound {T:Tab}:SoundFn Tryz.prog T 195 F_internal_stringslite_Index_sig ⟨F_internal_stringslite_Index⟩:=by
 intro F g st xs y tmf w args _ hent happ hrel hw hn hsz htm
 obtain ⟨(l:List Int),xs',rfl,h2⟩:=appF_inv_c (ts:=[.str]) happ
 obtain ⟨(m:List Int),xs'',rfl,h2'⟩:=appF_inv_c (ts:=[]) h2
 obtain ⟨rfl,h3⟩:=appF_inv_n h2'
 have hφ:Option.map (fun st:PSt=>(st.φ 0,st.φ 1)) (some st)=_:=(congrArg _ hent).symm.trans (ent_ix l m)
 have hφ:some (st.φ 0,st.φ 1)=some _:=hφ
 injection hφ with hφ
 obtain ⟨hφ0,hφ1⟩:=Prod.mk.inj hφ
 have h0:=hrel.slots 0
 rw [hφ0,htm 0] at h0
 have h1:=hrel.slots 1
 rw [hφ1,htm 1] at h1
 obtain ⟨s,e0,e1,e2⟩:=rel_str h0
 obtain ⟨t,f0,f1,f2⟩:=rel_str h1
 have ha:args = #[.string s,.string t]:=by
  obtain ⟨al⟩:=args
  match al,hsz with
  | [v,u],_=>
   have h:v=.string s:=e0
   have h':u=.string t:=f0
   rw [h,h']
 subst ha
 subst e1;subst f1
 have h3:F_internal_stringslite_Index (bytesL s) (bytesL t)=some y:=h3
 obtain ⟨c,hc⟩:∃ c,t=⟨#[c]⟩:=by
  obtain ⟨⟨tl⟩⟩:=t
  match tl with
  | []=>cases h3
  | [c]=>exact ⟨c,rfl⟩
  | a::b::r=>cases h3
 subst hc
 have hy:idxI (bytesL s) (byteI c)=y:=by
  have h3:some (idxI (bytesL s) (byteI c))=some y:=h3
  injection h3
 have hin:=idxI_in (bytesL s) (byteI c)
 have hlen:(bytesL s).length<=maxLen:=by simpa [bytesL] using e2
 have hmx:maxLen=9223372036854775807:=rfl
 obtain ⟨st',x1,x2,x3,x4,x5,x6,x7⟩:=exit_ix y
 refine (index_one s c w).mono fun e w' ⟨he,hb⟩=>⟨[.int .i64 (idxI (bytesL s) (byteI c))],_,st',by rw [he,idx_lib];rfl,rfl,x1,mrel_out (t:=.int .i64) (x:=y) hrel hb ⟨by rw [hy],?_⟩ x2 x3 x4 x5 x6 x7,fun k hk=>?_⟩
 ·rw [<-hy]
  simp [Lit.wf,IntKind.min,IntKind.max,IntKind.signed,IntKind.bits]
  omega
 ·match k with
  | 0=>cases hk
  | 1=>cases hk
  | k+2=>cases k <;> cases hk
end Go.Proofs.YtgfmfgombmpodaaGreatDoor
namespace Go.Proofs.YtgfmfgombmpodaaGreatDoor
open Pv
set_option linter.unusedVariables false
noncomputable def F_conf_number (s1:List Int) (i2:Int) (i3:Int):Option (Int×Bool):=
 (F_strconv_Atoi s1).bind fun x4=>
 cond (notB x4.2)
 ((F_strconv_Itoa x4.1).bind fun s5=>
 some (x4.1,(((s5==s1)&&(decide (x4.1 >= i2)))&&(decide (x4.1<=i3)))))
 (some (x4.1,false))
def F_conf_number_sig:Sig:=⟨[.v false [.d .str],.v false [.d (.int .i64)],.v false [.d (.int .i64)]],[(false,[.d (.int .i64)]),(false,[.d .bool])]⟩
def F_conf_number_ann:List (Nat×Ann):=[]
noncomputable def F_conf_number_env:Env:=⟨Tryz.prog,[(67,⟨F_strconv_Itoa_sig,⟨F_strconv_Itoa⟩⟩),(165,⟨F_strconv_Atoi_sig,⟨F_strconv_Atoi⟩⟩)],[]⟩
theorem F_conf_number_text:pvFn F_conf_number_env F_conf_number_ann Tryz.f131 F_conf_number_sig=F_conf_number:=by kernel_rfl
noncomputable def F_conf_bytesOf_L4 (s1:List Int) (s:List Int×Int):Option (((List Int×Bool)⊕(List Int))⊕(List Int×Int)):=
 let l4:=s.1;let i5:=s.2
 cond (decide ((IntKind.i64.wrap (i5+1)) < (s1.length:Int)))
 ((cutI s1 i5 (IntKind.i64.wrap (i5+2))).bind fun s6=>
 (F_strconv_ParseUint s6 16 8).bind fun x7=>
 cond x7.2
 (some (.inl (.inl (([]:List Int),false))))
 (chk (decide ((l4.length+([(IntKind.u8.wrap x7.1)]:List Int).length)*1<=140737488355328)&&decide (l4.length+([(IntKind.u8.wrap x7.1)]:List Int).length<=maxLen))
 (some (.inr ((l4++([(IntKind.u8.wrap x7.1)]:List Int)),(IntKind.i64.wrap (i5+2)))))))
 (some (.inl (.inr l4)))
noncomputable def F_conf_bytesOf_J2 (s1:List Int) (i2:Int) (i3:Int) (s:List Int):Option (List Int×Bool):=
 let l8:=s
 (F_conf_Hex l8).bind fun s9=>
 some (l8,(((s9==s1)&&(decide ((l8.length:Int) >= i2)))&&(decide ((l8.length:Int)<=i3))))
noncomputable def F_conf_bytesOf (s1:List Int) (i2:Int) (i3:Int):Option (List Int×Bool):=
 joinC (S:=List Int) (R:=List Int×Bool)
 (loopC (S:=List Int×Int) (R:=(List Int×Bool)⊕(List Int)) (F_conf_bytesOf_L4 s1) (([]:List Int),0))
 (F_conf_bytesOf_J2 s1 i2 i3)
def F_conf_bytesOf_sig:Sig:=⟨[.v false [.d .str],.v false [.d (.int .i64)],.v false [.d (.int .i64)]],[(false,[.own 5 (.int .u8)]),(false,[.d .bool])]⟩
def F_conf_bytesOf_ann:List (Nat×Ann):=[(2,⟨3,[(8,false,[.own 5 (.int .u8)])],[],([6,7]++List.range' 9 26),[]⟩),(4,⟨5,[(8,false,[.own 5 (.int .u8)]),(9,false,[.d (.int .i64)])],[],([6,7]++List.range' 10 25),[]⟩)]
noncomputable def F_conf_bytesOf_env:Env:=⟨Tryz.prog,[(69,⟨F_conf_Hex_sig,⟨F_conf_Hex⟩⟩),(170,⟨F_strconv_ParseUint_sig,⟨F_strconv_ParseUint⟩⟩)],[]⟩
theorem F_conf_bytesOf_text:pvFn F_conf_bytesOf_env F_conf_bytesOf_ann Tryz.f134 F_conf_bytesOf_sig=F_conf_bytesOf:=by kernel_rfl
noncomputable def F_internal_stringslite_HasPrefix (s1:List Int) (s2:List Int):Option (Bool):=
 cond (decide ((s1.length:Int) >= (s2.length:Int)))
 ((cutI s1 0 (s2.length:Int)).bind fun s3=>
 some (s3==s2))
 (some false)
def F_internal_stringslite_HasPrefix_sig:Sig:=⟨[.v false [.d .str],.v false [.d .str]],[(false,[.d .bool])]⟩
def F_internal_stringslite_HasPrefix_ann:List (Nat×Ann):=[]
noncomputable def F_internal_stringslite_HasPrefix_env:Env:=⟨Tryz.prog,[],[]⟩
theorem F_internal_stringslite_HasPrefix_text:pvFn F_internal_stringslite_HasPrefix_env F_internal_stringslite_HasPrefix_ann Tryz.f230 F_internal_stringslite_HasPrefix_sig=F_internal_stringslite_HasPrefix:=by kernel_rfl
noncomputable def F_internal_stringslite_CutPrefix (s1:List Int) (s2:List Int):Option (List Int×Bool):=
 (F_internal_stringslite_HasPrefix s1 s2).bind fun b3=>
 cond (!b3)
 (some (s1,false))
 ((cutI s1 (s2.length:Int) (s1.length:Int)).bind fun s4=>
 some (s4,true))
def F_internal_stringslite_CutPrefix_sig:Sig:=⟨[.v false [.d .str],.v false [.d .str]],[(false,[.d .str]),(false,[.d .bool])]⟩
def F_internal_stringslite_CutPrefix_ann:List (Nat×Ann):=[]
noncomputable def F_internal_stringslite_CutPrefix_env:Env:=⟨Tryz.prog,[(230,⟨F_internal_stringslite_HasPrefix_sig,⟨F_internal_stringslite_HasPrefix⟩⟩)],[]⟩
theorem F_internal_stringslite_CutPrefix_text:pvFn F_internal_stringslite_CutPrefix_env F_internal_stringslite_CutPrefix_ann Tryz.f201 F_internal_stringslite_CutPrefix_sig=F_internal_stringslite_CutPrefix:=by kernel_rfl
noncomputable def F_strings_CutPrefix (s1:List Int) (s2:List Int):Option (List Int×Bool):=
 (F_internal_stringslite_CutPrefix s1 s2).bind fun x3=>
 some (x3.1,x3.2)
def F_strings_CutPrefix_sig:Sig:=⟨[.v false [.d .str],.v false [.d .str]],[(false,[.d .str]),(false,[.d .bool])]⟩
def F_strings_CutPrefix_ann:List (Nat×Ann):=[]
noncomputable def F_strings_CutPrefix_env:Env:=⟨Tryz.prog,[(201,⟨F_internal_stringslite_CutPrefix_sig,⟨F_internal_stringslite_CutPrefix⟩⟩)],[]⟩
theorem F_strings_CutPrefix_text:pvFn F_strings_CutPrefix_env F_strings_CutPrefix_ann Tryz.f172 F_strings_CutPrefix_sig=F_strings_CutPrefix:=by kernel_rfl
noncomputable def F_host_sign (i1:Int):Option (Int):=
 cond ((decide (i1 >= 65))&&(decide (i1<=90)))
 (some (IntKind.u8.wrap ((IntKind.u8.wrap (i1+97)) - 65)))
 (cond ((decide (i1 >= 97))&&(decide (i1<=122)))
 (cond ((decide (i1 >= 97))&&(decide (i1<=122)))
 (some i1)
 (some 0))
 (cond ((decide (i1 >= 48))&&(decide (i1<=57)))
 (cond ((decide (i1 >= 48))&&(decide (i1<=57)))
 (some i1)
 (some 0))
 (cond (i1==45)
 (cond (i1==45)
 (some i1)
 (some 0))
 (cond (i1==95)
 (some i1)
 (some 0)))))
def F_host_sign_sig:Sig:=⟨[.v false [.d (.int .u8)]],[(false,[.d (.int .u8)])]⟩
def F_host_sign_ann:List (Nat×Ann):=[]
noncomputable def F_host_sign_env:Env:=⟨Tryz.prog,[],[]⟩
theorem F_host_sign_text:pvFn F_host_sign_env F_host_sign_ann Tryz.f202 F_host_sign_sig=F_host_sign:=by kernel_rfl
noncomputable def F_host_Name_G1_2 (s1:List Int) (s:List Int×Int×Int):Option ((List Int×Int)⊕(Nat×List Int×Int×Int)):=
 let l5:=s.1;let i6:=s.2.1;let i7:=s.2.2
 cond (i6==(s1.length:Int))
 (some (.inr (1,(l5,i6,i7))))
 ((getI s1 i6).bind fun i8=>
 cond (i8==46)
 (some (.inr (1,(l5,i6,i7))))
 ((getI s1 i6).bind fun i9=>
 (F_host_sign i9).bind fun i10=>
 cond ((i10==0)||(i7==63))
 (some (.inr (0,(l5,i6,i7))))
 (cond ((i10==45)&&(i7==0))
 (some (.inr (0,(l5,i6,i7))))
 (chk (decide ((l5.length+([i10]:List Int).length)*1<=140737488355328)&&decide (l5.length+([i10]:List Int).length<=maxLen))
 (some (.inr (2,((l5++([i10]:List Int)),(IntKind.i64.wrap (i6+1)),(IntKind.i64.wrap (i7+1))))))))))
noncomputable def F_host_Name_G1_1 (s1:List Int) (s:List Int×Int×Int):Option ((List Int×Int)⊕(Nat×List Int×Int×Int)):=
 let l5:=s.1;let i6:=s.2.1;let i7:=s.2.2
 cond (i7==0)
 (some (.inr (0,(l5,i6,i7))))
 ((getI l5 (IntKind.i64.wrap ((l5.length:Int) - 1))).bind fun i11=>
 cond (i11==45)
 (some (.inr (0,(l5,i6,i7))))
 (cond (i6==(s1.length:Int))
 (some (.inl (l5,0)))
 (chk (decide ((l5.length+([46]:List Int).length)*1<=140737488355328)&&decide (l5.length+([46]:List Int).length<=maxLen))
 (some (.inr (2,((l5++([46]:List Int)),(IntKind.i64.wrap (i6+1)),0)))))))
noncomputable def F_host_Name_G1_0 (s:List Int×Int×Int):Option ((List Int×Int)⊕(Nat×List Int×Int×Int)):=
 let l5:=s.1;let i6:=s.2.1;let i7:=s.2.2
 some (.inl (([]:List Int),2))
noncomputable def F_host_Name_G1 (s1:List Int) (p:Nat×List Int×Int×Int):Option ((List Int×Int)⊕(Nat×List Int×Int×Int)):=
 cond (hasN [2] p.1) (F_host_Name_G1_2 s1 p.2) (cond (hasN [1] p.1) (F_host_Name_G1_1 s1 p.2) (cond (hasN [0] p.1) (F_host_Name_G1_0 p.2) (none)))
noncomputable def F_host_Name (s1:List Int):Option (List Int×Int):=
 joinC (S:=Nat×List Int×Int×Int) (R:=List Int×Int)
 (cond (decide ((s1.length:Int) > 253))
 (some (.inr (0,(([]:List Int),0,0))))
 (cond (0==(s1.length:Int))
 (some (.inr (1,(([]:List Int),0,0))))
 ((getI s1 0).bind fun i2=>
 cond (i2==46)
 (some (.inr (1,(([]:List Int),0,0))))
 ((getI s1 0).bind fun i3=>
 (F_host_sign i3).bind fun i4=>
 cond ((i4==0)||false)
 (some (.inr (0,(([]:List Int),0,0))))
 (cond ((i4==45)&&true)
 (some (.inr (0,(([]:List Int),0,0))))
 (chk (decide ((([]:List Int).length+([i4]:List Int).length)*1<=140737488355328)&&decide (([]:List Int).length+([i4]:List Int).length<=maxLen))
 (some (.inr (2,((([]:List Int)++([i4]:List Int)),(IntKind.i64.wrap (0+1)),(IntKind.i64.wrap (0+1))))))))))))
 (fun p=>loopC (S:=Nat×List Int×Int×Int) (R:=List Int×Int) (F_host_Name_G1 s1) p)
def F_host_Name_sig:Sig:=⟨[.v false [.d .str]],[(false,[.d .str]),(false,[.d (.int .i64)])]⟩
def F_host_Name_ann:List (Nat×Ann):=[(1,⟨2,[(4,false,[.own 5 (.int .u8)]),(5,false,[.d (.int .i64)]),(6,false,[.d (.int .i64)])],[],([2,3]++List.range' 7 62),[]⟩)]
noncomputable def F_host_Name_env:Env:=⟨Tryz.prog,[(202,⟨F_host_sign_sig,⟨F_host_sign⟩⟩)],[]⟩
theorem F_host_Name_text:pvFn F_host_Name_env F_host_Name_ann Tryz.f173 F_host_Name_sig=F_host_Name:=by kernel_rfl
noncomputable def F_addr_kept_L4 (s1:List Int) (i2:Int) (s:Int×List Int):Option (((List Int)⊕(List Int))⊕(Int×List Int)):=
 let i3:=s.1;let l4:=s.2
 cond (decide (i3 < (s1.length:Int)))
 (chk (decide (0<=i3)&&decide (i3 < (s1.length:Int)))
 ((getI l4 i3).bind fun i5=>
 chk (decide (0<=(minI (maxI (IntKind.i64.wrap (i2 - (IntKind.i64.wrap (8*i3)))) 0) 8)))
 (chk (decide (0<=i3)&&decide (i3 < (s1.length:Int)))
 (chk (decide (i3 < (l4.length:Int)))
 (some (.inr ((IntKind.i64.wrap (i3+1)),(l4.set (i3).toNat (bits .and .u8 i5 (IntKind.u8.wrap (Int.fdiv 65280 (2 ^ (min ((minI (maxI (IntKind.i64.wrap (i2 - (IntKind.i64.wrap (8*i3)))) 0) 8)).toNat 64)))))))))))))
 (some (.inl (.inr l4)))
noncomputable def F_addr_kept_J2 (s1:List Int) (s:List Int):Option (List Int):=
 let l6:=s
 chk (Nat.ble s1.length (List.length l6))
 (some (List.take s1.length l6))
noncomputable def F_addr_kept (s1:List Int) (i2:Int):Option (List Int):=
 joinC (S:=List Int) (R:=List Int)
 (loopC (S:=Int×List Int) (R:=(List Int)⊕(List Int)) (F_addr_kept_L4 s1 i2) (0,s1))
 (F_addr_kept_J2 s1)
def F_addr_kept_sig:Sig:=⟨[.v false [.d .str],.v false [.d (.int .i64)]],[(false,[.d .str])]⟩
def F_addr_kept_ann:List (Nat×Ann):=[(2,⟨3,[],[(9,[.row (.int .u8)])],([6,7]++List.range' 10 21),[]⟩),(4,⟨5,[(12,false,[.d (.int .i64)])],[(9,[.row (.int .u8)])],([6,7]++List.range' 13 18),[]⟩)]
noncomputable def F_addr_kept_env:Env:=⟨Tryz.prog,[],[9]⟩
theorem F_addr_kept_text:pvFn F_addr_kept_env F_addr_kept_ann Tryz.f143 F_addr_kept_sig=F_addr_kept:=by kernel_rfl
noncomputable def F_internal_stringslite_Cut (s1:List Int) (s2:List Int):Option (List Int×List Int×Bool):=
 (F_internal_stringslite_Index s1 s2).bind fun i3=>
 cond (decide (i3 >= 0))
 ((cutI s1 0 i3).bind fun s4=>
 (cutI s1 (IntKind.i64.wrap (i3+(s2.length:Int))) (s1.length:Int)).bind fun s5=>
 some (s4,s5,true))
 (some (s1,([]:List Int),false))
def F_internal_stringslite_Cut_sig:Sig:=⟨[.v false [.d .str],.v false [.d .str]],[(false,[.d .str]),(false,[.d .str]),(false,[.d .bool])]⟩
def F_internal_stringslite_Cut_ann:List (Nat×Ann):=[]
noncomputable def F_internal_stringslite_Cut_env:Env:=⟨Tryz.prog,[(195,⟨F_internal_stringslite_Index_sig,⟨F_internal_stringslite_Index⟩⟩)],[]⟩
theorem F_internal_stringslite_Cut_text:pvFn F_internal_stringslite_Cut_env F_internal_stringslite_Cut_ann Tryz.f205 F_internal_stringslite_Cut_sig=F_internal_stringslite_Cut:=by kernel_rfl
noncomputable def F_strings_Cut (s1:List Int) (s2:List Int):Option (List Int×List Int×Bool):=
 (F_internal_stringslite_Cut s1 s2).bind fun x3=>
 some (x3.1,x3.2.1,x3.2.2)
def F_strings_Cut_sig:Sig:=⟨[.v false [.d .str],.v false [.d .str]],[(false,[.d .str]),(false,[.d .str]),(false,[.d .bool])]⟩
def F_strings_Cut_ann:List (Nat×Ann):=[]
noncomputable def F_strings_Cut_env:Env:=⟨Tryz.prog,[(205,⟨F_internal_stringslite_Cut_sig,⟨F_internal_stringslite_Cut⟩⟩)],[]⟩
theorem F_strings_Cut_text:pvFn F_strings_Cut_env F_strings_Cut_ann Tryz.f175 F_strings_Cut_sig=F_strings_Cut:=by kernel_rfl
noncomputable def F_addr_decimal (s1:List Int) (i2:Int):Option (Int×Bool):=
 (F_strconv_Atoi s1).bind fun x3=>
 cond (((notB x3.2)&&(decide (x3.1 >= 0)))&&(decide (x3.1<=i2)))
 ((F_strconv_Itoa x3.1).bind fun s4=>
 some (x3.1,(s4==s1)))
 (some (x3.1,false))
def F_addr_decimal_sig:Sig:=⟨[.v false [.d .str],.v false [.d (.int .i64)]],[(false,[.d (.int .i64)]),(false,[.d .bool])]⟩
def F_addr_decimal_ann:List (Nat×Ann):=[]
noncomputable def F_addr_decimal_env:Env:=⟨Tryz.prog,[(67,⟨F_strconv_Itoa_sig,⟨F_strconv_Itoa⟩⟩),(165,⟨F_strconv_Atoi_sig,⟨F_strconv_Atoi⟩⟩)],[]⟩
theorem F_addr_decimal_text:pvFn F_addr_decimal_env F_addr_decimal_ann Tryz.f204 F_addr_decimal_sig=F_addr_decimal:=by kernel_rfl
noncomputable def F_addr_dotted_L8 (l2:List (List Int)) (s:List Int×List (List Int)×Int):Option (((List Int×Bool)⊕(List Int))⊕(List Int×List (List Int)×Int)):=
 let l3:=s.1;let l4:=s.2.1;let i5:=s.2.2
 cond (decide (i5 < (l2.length:Int)))
 ((getI l4 i5).bind fun s6=>
 (F_addr_decimal s6 255).bind fun x7=>
 cond (!x7.2)
 (some (.inl (.inl (([]:List Int),false))))
 (chk (decide ((l3.length+([(IntKind.u8.wrap x7.1)]:List Int).length)*1<=140737488355328)&&decide (l3.length+([(IntKind.u8.wrap x7.1)]:List Int).length<=maxLen))
 (some (.inr ((l3++([(IntKind.u8.wrap x7.1)]:List Int)),l4,(IntKind.i64.wrap (i5+1)))))))
 (some (.inl (.inr l3)))
noncomputable def F_addr_dotted_J6 (s:List Int):Option (List Int×Bool):=
 let l8:=s
 some (l8,true)
noncomputable def F_addr_dotted (s1:List Int):Option (List Int×Bool):=
 (F_strings_Split s1 ([46]:List Int)).bind fun l2=>
 cond ((l2.length:Int) != 4)
 (some (([]:List Int),false))
 (joinC (S:=List Int) (R:=List Int×Bool)
 (loopC (S:=List Int×List (List Int)×Int) (R:=(List Int×Bool)⊕(List Int)) (F_addr_dotted_L8 l2) (([]:List Int),l2,0))
 (F_addr_dotted_J6))
def F_addr_dotted_sig:Sig:=⟨[.v false [.d .str]],[(false,[.d .str]),(false,[.d .bool])]⟩
def F_addr_dotted_ann:List (Nat×Ann):=[(6,⟨7,[(5,false,[.own 5 (.int .u8)])],[],([2,3,7,8,9]++List.range' 15 19),[]⟩),(8,⟨9,[(5,false,[.own 5 (.int .u8)]),(15,false,[.own 9 .str]),(17,false,[.d (.int .i64)])],[],([2,3,7,8,9]++List.range' 18 16),[]⟩)]
noncomputable def F_addr_dotted_env:Env:=⟨Tryz.prog,[(94,⟨F_strings_Split_sig,⟨F_strings_Split⟩⟩),(204,⟨F_addr_decimal_sig,⟨F_addr_decimal⟩⟩)],[]⟩
theorem F_addr_dotted_text:pvFn F_addr_dotted_env F_addr_dotted_ann Tryz.f231 F_addr_dotted_sig=F_addr_dotted:=by kernel_rfl
noncomputable def F_strings_HasPrefix (s1:List Int) (s2:List Int):Option (Bool):=
 (F_internal_stringslite_HasPrefix s1 s2).bind fun b3=>
 some b3
def F_strings_HasPrefix_sig:Sig:=⟨[.v false [.d .str],.v false [.d .str]],[(false,[.d .bool])]⟩
def F_strings_HasPrefix_ann:List (Nat×Ann):=[]
noncomputable def F_strings_HasPrefix_env:Env:=⟨Tryz.prog,[(230,⟨F_internal_stringslite_HasPrefix_sig,⟨F_internal_stringslite_HasPrefix⟩⟩)],[]⟩
theorem F_strings_HasPrefix_text:pvFn F_strings_HasPrefix_env F_strings_HasPrefix_ann Tryz.f241 F_strings_HasPrefix_sig=F_strings_HasPrefix:=by kernel_rfl
noncomputable def F_addr_digit (i1:Int):Option (Int):=
 cond ((decide (i1 >= 48))&&(decide (i1<=57)))
 (some (IntKind.i64.wrap (IntKind.u8.wrap (i1 - 48))))
 (cond ((decide (i1 >= 97))&&(decide (i1<=102)))
 (some (IntKind.i64.wrap ((IntKind.i64.wrap (IntKind.u8.wrap (i1 - 97)))+10)))
 (cond ((decide (i1 >= 65))&&(decide (i1<=70)))
 (some (IntKind.i64.wrap ((IntKind.i64.wrap (IntKind.u8.wrap (i1 - 65)))+10)))
 (some (-1))))
def F_addr_digit_sig:Sig:=⟨[.v false [.d (.int .u8)]],[(false,[.d (.int .i64)])]⟩
def F_addr_digit_ann:List (Nat×Ann):=[]
noncomputable def F_addr_digit_env:Env:=⟨Tryz.prog,[],[]⟩
theorem F_addr_digit_text:pvFn F_addr_digit_env F_addr_digit_ann Tryz.f242 F_addr_digit_sig=F_addr_digit:=by kernel_rfl
noncomputable def F_addr_coloned_G1_1 (s1:List Int) (s:List Int×Int×Int×Int×Int):Option ((List Int×Bool)⊕(Nat×List Int×Int×Int×Int×Int)):=
 let l11:=s.1;let i12:=s.2.1;let i13:=s.2.2.1;let i14:=s.2.2.2.1;let i15:=s.2.2.2.2
 cond (decide (i13 < (s1.length:Int)))
 ((getI s1 i13).bind fun i16=>
 (F_addr_digit i16).bind fun i17=>
 cond ((decide (i17 >= 0))&&(decide ((0:Int) < 4)))
 ((getI s1 i13).bind fun i18=>
 (F_addr_digit i18).bind fun i19=>
 some (.inr (2,(l11,i12,(IntKind.i64.wrap (i13+1)),(bits .or .i64 (IntKind.i64.wrap (0*2 ^ 4)) i19),(IntKind.i64.wrap (0+1))))))
 (some (.inl (([]:List Int),false))))
 (some (.inl (([]:List Int),false)))
noncomputable def F_addr_coloned_G1_2 (s1:List Int) (s:List Int×Int×Int×Int×Int):Option ((List Int×Bool)⊕(Nat×List Int×Int×Int×Int×Int)):=
 let l11:=s.1;let i12:=s.2.1;let i13:=s.2.2.1;let i14:=s.2.2.2.1;let i15:=s.2.2.2.2
 cond (decide (i13 < (s1.length:Int)))
 ((getI s1 i13).bind fun i20=>
 (F_addr_digit i20).bind fun i21=>
 cond ((decide (i21 >= 0))&&(decide (i15 < 4)))
 ((getI s1 i13).bind fun i22=>
 (F_addr_digit i22).bind fun i23=>
 some (.inr (2,(l11,i12,(IntKind.i64.wrap (i13+1)),(bits .or .i64 (IntKind.i64.wrap (i14*2 ^ 4)) i23),(IntKind.i64.wrap (i15+1))))))
 (cond (i15==0)
 (some (.inl (([]:List Int),false)))
 (chk (decide ((l11.length+([(IntKind.u8.wrap (Int.fdiv i14 (2 ^ 8))),(IntKind.u8.wrap i14)]:List Int).length)*1<=140737488355328)&&decide (l11.length+([(IntKind.u8.wrap (Int.fdiv i14 (2 ^ 8))),(IntKind.u8.wrap i14)]:List Int).length<=maxLen))
 (cond (i13==(s1.length:Int))
 (some (.inr (0,((l11++([(IntKind.u8.wrap (Int.fdiv i14 (2 ^ 8))),(IntKind.u8.wrap i14)]:List Int)),i12,i13,i14,i15))))
 ((getI s1 i13).bind fun i24=>
 cond ((i24 != 58)||(((l11++([(IntKind.u8.wrap (Int.fdiv i14 (2 ^ 8))),(IntKind.u8.wrap i14)]:List Int)).length:Int)==16))
 (some (.inl (([]:List Int),false)))
 (cond ((IntKind.i64.wrap (i13+1))==(s1.length:Int))
 (some (.inr (1,((l11++([(IntKind.u8.wrap (Int.fdiv i14 (2 ^ 8))),(IntKind.u8.wrap i14)]:List Int)),i12,(IntKind.i64.wrap (i13+1)),i14,i15))))
 ((getI s1 (IntKind.i64.wrap (i13+1))).bind fun i25=>
 cond (i25 != 58)
 (some (.inr (1,((l11++([(IntKind.u8.wrap (Int.fdiv i14 (2 ^ 8))),(IntKind.u8.wrap i14)]:List Int)),i12,(IntKind.i64.wrap (i13+1)),i14,i15))))
 (cond (decide (i12 >= 0))
 (some (.inl (([]:List Int),false)))
 (cond (decide ((IntKind.i64.wrap ((IntKind.i64.wrap (i13+1))+1)) < (s1.length:Int)))
 (some (.inr (1,((l11++([(IntKind.u8.wrap (Int.fdiv i14 (2 ^ 8))),(IntKind.u8.wrap i14)]:List Int)),((l11++([(IntKind.u8.wrap (Int.fdiv i14 (2 ^ 8))),(IntKind.u8.wrap i14)]:List Int)).length:Int),(IntKind.i64.wrap ((IntKind.i64.wrap (i13+1))+1)),i14,i15))))
 (cond (decide (((l11++([(IntKind.u8.wrap (Int.fdiv i14 (2 ^ 8))),(IntKind.u8.wrap i14)]:List Int)).length:Int) < 0))
 (some (.inl ((l11++([(IntKind.u8.wrap (Int.fdiv i14 (2 ^ 8))),(IntKind.u8.wrap i14)]:List Int)),(((l11++([(IntKind.u8.wrap (Int.fdiv i14 (2 ^ 8))),(IntKind.u8.wrap i14)]:List Int)).length:Int)==16))))
 (cond (decide (((l11++([(IntKind.u8.wrap (Int.fdiv i14 (2 ^ 8))),(IntKind.u8.wrap i14)]:List Int)).length:Int) >= 16))
 (some (.inl (([]:List Int),false)))
 (chk (insOk (l11++([(IntKind.u8.wrap (Int.fdiv i14 (2 ^ 8))),(IntKind.u8.wrap i14)]:List Int)) ((l11++([(IntKind.u8.wrap (Int.fdiv i14 (2 ^ 8))),(IntKind.u8.wrap i14)]:List Int)).length:Int))
 (some (.inl ((insZ (l11++([(IntKind.u8.wrap (Int.fdiv i14 (2 ^ 8))),(IntKind.u8.wrap i14)]:List Int)) ((l11++([(IntKind.u8.wrap (Int.fdiv i14 (2 ^ 8))),(IntKind.u8.wrap i14)]:List Int)).length:Int).toNat),true)))))))))))))))
 (cond (i15==0)
 (some (.inl (([]:List Int),false)))
 (chk (decide ((l11.length+([(IntKind.u8.wrap (Int.fdiv i14 (2 ^ 8))),(IntKind.u8.wrap i14)]:List Int).length)*1<=140737488355328)&&decide (l11.length+([(IntKind.u8.wrap (Int.fdiv i14 (2 ^ 8))),(IntKind.u8.wrap i14)]:List Int).length<=maxLen))
 (cond (i13==(s1.length:Int))
 (some (.inr (0,((l11++([(IntKind.u8.wrap (Int.fdiv i14 (2 ^ 8))),(IntKind.u8.wrap i14)]:List Int)),i12,i13,i14,i15))))
 ((getI s1 i13).bind fun i26=>
 cond ((i26 != 58)||(((l11++([(IntKind.u8.wrap (Int.fdiv i14 (2 ^ 8))),(IntKind.u8.wrap i14)]:List Int)).length:Int)==16))
 (some (.inl (([]:List Int),false)))
 (cond ((IntKind.i64.wrap (i13+1))==(s1.length:Int))
 (some (.inr (1,((l11++([(IntKind.u8.wrap (Int.fdiv i14 (2 ^ 8))),(IntKind.u8.wrap i14)]:List Int)),i12,(IntKind.i64.wrap (i13+1)),i14,i15))))
 ((getI s1 (IntKind.i64.wrap (i13+1))).bind fun i27=>
 cond (i27 != 58)
 (some (.inr (1,((l11++([(IntKind.u8.wrap (Int.fdiv i14 (2 ^ 8))),(IntKind.u8.wrap i14)]:List Int)),i12,(IntKind.i64.wrap (i13+1)),i14,i15))))
 (cond (decide (i12 >= 0))
 (some (.inl (([]:List Int),false)))
 (cond (decide ((IntKind.i64.wrap ((IntKind.i64.wrap (i13+1))+1)) < (s1.length:Int)))
 (some (.inr (1,((l11++([(IntKind.u8.wrap (Int.fdiv i14 (2 ^ 8))),(IntKind.u8.wrap i14)]:List Int)),((l11++([(IntKind.u8.wrap (Int.fdiv i14 (2 ^ 8))),(IntKind.u8.wrap i14)]:List Int)).length:Int),(IntKind.i64.wrap ((IntKind.i64.wrap (i13+1))+1)),i14,i15))))
 (cond (decide (((l11++([(IntKind.u8.wrap (Int.fdiv i14 (2 ^ 8))),(IntKind.u8.wrap i14)]:List Int)).length:Int) < 0))
 (some (.inl ((l11++([(IntKind.u8.wrap (Int.fdiv i14 (2 ^ 8))),(IntKind.u8.wrap i14)]:List Int)),(((l11++([(IntKind.u8.wrap (Int.fdiv i14 (2 ^ 8))),(IntKind.u8.wrap i14)]:List Int)).length:Int)==16))))
 (cond (decide (((l11++([(IntKind.u8.wrap (Int.fdiv i14 (2 ^ 8))),(IntKind.u8.wrap i14)]:List Int)).length:Int) >= 16))
 (some (.inl (([]:List Int),false)))
 (chk (insOk (l11++([(IntKind.u8.wrap (Int.fdiv i14 (2 ^ 8))),(IntKind.u8.wrap i14)]:List Int)) ((l11++([(IntKind.u8.wrap (Int.fdiv i14 (2 ^ 8))),(IntKind.u8.wrap i14)]:List Int)).length:Int))
 (some (.inl ((insZ (l11++([(IntKind.u8.wrap (Int.fdiv i14 (2 ^ 8))),(IntKind.u8.wrap i14)]:List Int)) ((l11++([(IntKind.u8.wrap (Int.fdiv i14 (2 ^ 8))),(IntKind.u8.wrap i14)]:List Int)).length:Int).toNat),true))))))))))))))
noncomputable def F_addr_coloned_G1_0 (s:List Int×Int×Int×Int×Int):Option ((List Int×Bool)⊕(Nat×List Int×Int×Int×Int×Int)):=
 let l11:=s.1;let i12:=s.2.1;let i13:=s.2.2.1;let i14:=s.2.2.2.1;let i15:=s.2.2.2.2
 cond (decide (i12 < 0))
 (some (.inl (l11,((l11.length:Int)==16))))
 (cond (decide ((l11.length:Int) >= 16))
 (some (.inl (([]:List Int),false)))
 (chk (insOk l11 i12)
 (some (.inl ((insZ l11 i12.toNat),true)))))
noncomputable def F_addr_coloned_G1 (s1:List Int) (p:Nat×List Int×Int×Int×Int×Int):Option ((List Int×Bool)⊕(Nat×List Int×Int×Int×Int×Int)):=
 cond (hasN [1] p.1) (F_addr_coloned_G1_1 s1 p.2) (cond (hasN [2] p.1) (F_addr_coloned_G1_2 s1 p.2) (cond (hasN [0] p.1) (F_addr_coloned_G1_0 p.2) (none)))
noncomputable def F_addr_coloned (s1:List Int):Option (List Int×Bool):=
 joinC (S:=Nat×List Int×Int×Int×Int×Int) (R:=List Int×Bool)
 ((F_strings_HasPrefix s1 ([58,58]:List Int)).bind fun b2=>
 cond b2
 (cond (2==(s1.length:Int))
 (some (.inr (0,(([]:List Int),0,2,0,0))))
 (cond (decide ((2:Int) < (s1.length:Int)))
 ((getI s1 2).bind fun i3=>
 (F_addr_digit i3).bind fun i4=>
 cond ((decide (i4 >= 0))&&(decide ((0:Int) < 4)))
 ((getI s1 2).bind fun i5=>
 (F_addr_digit i5).bind fun i6=>
 some (.inr (2,(([]:List Int),0,(IntKind.i64.wrap (2+1)),(bits .or .i64 (IntKind.i64.wrap (0*2 ^ 4)) i6),(IntKind.i64.wrap (0+1))))))
 (some (.inl (([]:List Int),false))))
 (some (.inl (([]:List Int),false)))))
 (cond (decide ((0:Int) < (s1.length:Int)))
 ((getI s1 0).bind fun i7=>
 (F_addr_digit i7).bind fun i8=>
 cond ((decide (i8 >= 0))&&(decide ((0:Int) < 4)))
 ((getI s1 0).bind fun i9=>
 (F_addr_digit i9).bind fun i10=>
 some (.inr (2,(([]:List Int),(-1),(IntKind.i64.wrap (0+1)),(bits .or .i64 (IntKind.i64.wrap (0*2 ^ 4)) i10),(IntKind.i64.wrap (0+1))))))
 (some (.inl (([]:List Int),false))))
 (some (.inl (([]:List Int),false)))))
 (fun p=>loopC (S:=Nat×List Int×Int×Int×Int×Int) (R:=List Int×Bool) (F_addr_coloned_G1 s1) p)
def F_addr_coloned_sig:Sig:=⟨[.v false [.d .str]],[(false,[.d .str]),(false,[.d .bool])]⟩
def F_addr_coloned_ann:List (Nat×Ann):=[(1,⟨2,[(4,false,[.own 5 (.int .u8)]),(5,false,[.d (.int .i64)]),(6,false,[.d (.int .i64)]),(7,false,[.d (.int .i64)]),(8,false,[.d (.int .i64)])],[],([2,3]++List.range' 9 97),[]⟩)]
noncomputable def F_addr_coloned_env:Env:=⟨Tryz.prog,[(241,⟨F_strings_HasPrefix_sig,⟨F_strings_HasPrefix⟩⟩),(242,⟨F_addr_digit_sig,⟨F_addr_digit⟩⟩)],[]⟩
theorem F_addr_coloned_text:pvFnH 29 insTail F_addr_coloned_env F_addr_coloned_ann Tryz.f232 F_addr_coloned_sig=F_addr_coloned:=by kernel_rfl
noncomputable def F_internal_stringslite_TrimPrefix (s1:List Int) (s2:List Int):Option (List Int):=
 (F_internal_stringslite_HasPrefix s1 s2).bind fun b3=>
 cond b3
 ((cutI s1 (s2.length:Int) (s1.length:Int)).bind fun s4=>
 some s4)
 (some s1)
def F_internal_stringslite_TrimPrefix_sig:Sig:=⟨[.v false [.d .str],.v false [.d .str]],[(false,[.d .str])]⟩
def F_internal_stringslite_TrimPrefix_ann:List (Nat×Ann):=[]
noncomputable def F_internal_stringslite_TrimPrefix_env:Env:=⟨Tryz.prog,[(230,⟨F_internal_stringslite_HasPrefix_sig,⟨F_internal_stringslite_HasPrefix⟩⟩)],[]⟩
theorem F_internal_stringslite_TrimPrefix_text:pvFn F_internal_stringslite_TrimPrefix_env F_internal_stringslite_TrimPrefix_ann Tryz.f247 F_internal_stringslite_TrimPrefix_sig=F_internal_stringslite_TrimPrefix:=by kernel_rfl
noncomputable def F_strings_TrimPrefix (s1:List Int) (s2:List Int):Option (List Int):=
 (F_internal_stringslite_TrimPrefix s1 s2).bind fun s3=>
 some s3
def F_strings_TrimPrefix_sig:Sig:=⟨[.v false [.d .str],.v false [.d .str]],[(false,[.d .str])]⟩
def F_strings_TrimPrefix_ann:List (Nat×Ann):=[]
noncomputable def F_strings_TrimPrefix_env:Env:=⟨Tryz.prog,[(247,⟨F_internal_stringslite_TrimPrefix_sig,⟨F_internal_stringslite_TrimPrefix⟩⟩)],[]⟩
theorem F_strings_TrimPrefix_text:pvFn F_strings_TrimPrefix_env F_strings_TrimPrefix_ann Tryz.f244 F_strings_TrimPrefix_sig=F_strings_TrimPrefix:=by kernel_rfl
noncomputable def F_addr_Plain (s1:List Int):Option (List Int):=
 (F_strings_TrimPrefix s1 ([0,0,0,0,0,0,0,0,0,0,255,255]:List Int)).bind fun s2=>
 some s2
def F_addr_Plain_sig:Sig:=⟨[.v false [.d .str]],[(false,[.d .str])]⟩
def F_addr_Plain_ann:List (Nat×Ann):=[]
noncomputable def F_addr_Plain_env:Env:=⟨Tryz.prog,[(244,⟨F_strings_TrimPrefix_sig,⟨F_strings_TrimPrefix⟩⟩)],[]⟩
theorem F_addr_Plain_text:pvFn F_addr_Plain_env F_addr_Plain_ann Tryz.f233 F_addr_Plain_sig=F_addr_Plain:=by kernel_rfl
noncomputable def F_addr_Parse (s1:List Int):Option (List Int×Int):=
 (F_addr_dotted s1).bind fun x2=>
 cond (!x2.2)
 ((F_addr_coloned s1).bind fun x3=>
 (F_addr_Plain x3.1).bind fun s4=>
 cond (!x3.2)
 (some (([]:List Int),2))
 (some (s4,0)))
 (cond (!x2.2)
 (some (([]:List Int),2))
 (some (x2.1,0)))
def F_addr_Parse_sig:Sig:=⟨[.v false [.d .str]],[(false,[.d .str]),(false,[.d (.int .i64)])]⟩
def F_addr_Parse_ann:List (Nat×Ann):=[]
noncomputable def F_addr_Parse_env:Env:=⟨Tryz.prog,[(231,⟨F_addr_dotted_sig,⟨F_addr_dotted⟩⟩),(232,⟨F_addr_coloned_sig,⟨F_addr_coloned⟩⟩),(233,⟨F_addr_Plain_sig,⟨F_addr_Plain⟩⟩)],[]⟩
theorem F_addr_Parse_text:pvFn F_addr_Parse_env F_addr_Parse_ann Tryz.f203 F_addr_Parse_sig=F_addr_Parse:=by kernel_rfl
noncomputable def F_addr_ParseNet (s1:List Int):Option (List Int×Int×Int):=
 (F_strings_Cut s1 ([47]:List Int)).bind fun x2=>
 (F_addr_Parse x2.1).bind fun x3=>
 cond (x3.2 != 0)
 (some (([]:List Int),0,x3.2))
 (cond x2.2.2
 ((F_addr_decimal x2.2.1 (IntKind.i64.wrap (8*(x3.1.length:Int)))).bind fun x4=>
 cond (!x4.2)
 (some (([]:List Int),0,2))
 ((F_addr_kept x3.1 x4.1).bind fun s5=>
 cond (!(s5==x3.1))
 (some (([]:List Int),0,2))
 (some (x3.1,x4.1,0))))
 (some (x3.1,(IntKind.i64.wrap (8*(x3.1.length:Int))),0)))
def F_addr_ParseNet_sig:Sig:=⟨[.v false [.d .str]],[(true,[.d .str,.d (.int .i64)]),(false,[.d (.int .i64)])]⟩
def F_addr_ParseNet_ann:List (Nat×Ann):=[]
noncomputable def F_addr_ParseNet_env:Env:=⟨Tryz.prog,[(143,⟨F_addr_kept_sig,⟨F_addr_kept⟩⟩),(175,⟨F_strings_Cut_sig,⟨F_strings_Cut⟩⟩),(203,⟨F_addr_Parse_sig,⟨F_addr_Parse⟩⟩),(204,⟨F_addr_decimal_sig,⟨F_addr_decimal⟩⟩)],[]⟩
theorem F_addr_ParseNet_text:pvFn F_addr_ParseNet_env F_addr_ParseNet_ann Tryz.f174 F_addr_ParseNet_sig=F_addr_ParseNet:=by kernel_rfl
noncomputable def F_conf_pattern (s1:List Int):Option (Bool×Int×List Int×List Int×Int×Int×Int×Bool):=
 cond (s1==([42]:List Int))
 (some (false,0,([]:List Int),([]:List Int),0,0,0,true))
 ((F_strings_CutPrefix s1 ([46]:List Int)).bind fun x2=>
 cond x2.2
 ((F_host_Name x2.1).bind fun x3=>
 cond (x3.2==0)
 (chk (Nat.ble (([46]:List Int).length+x3.1.length) maxLen)
 (some (false,2,(([46]:List Int)++x3.1),([]:List Int),0,0,0,true)))
 ((F_addr_ParseNet s1).bind fun x4=>
 cond (x4.2.2==0)
 (some (false,3,([]:List Int),x4.1,x4.2.1,0,0,true))
 ((F_host_Name s1).bind fun x5=>
 some (false,1,x5.1,([]:List Int),0,0,0,(x5.2==0)))))
 ((F_addr_ParseNet s1).bind fun x6=>
 cond (x6.2.2==0)
 (some (false,3,([]:List Int),x6.1,x6.2.1,0,0,true))
 ((F_host_Name s1).bind fun x7=>
 some (false,1,x7.1,([]:List Int),0,0,0,(x7.2==0)))))
def F_conf_pattern_sig:Sig:=⟨[.v false [.d .str]],[(true,[.d .bool,.d (.int .i64),.d .str,.d .str,.d (.int .i64),.d (.int .i64),.d (.int .i64)]),(false,[.d .bool])]⟩
def F_conf_pattern_ann:List (Nat×Ann):=[]
noncomputable def F_conf_pattern_env:Env:=⟨Tryz.prog,[(172,⟨F_strings_CutPrefix_sig,⟨F_strings_CutPrefix⟩⟩),(173,⟨F_host_Name_sig,⟨F_host_Name⟩⟩),(174,⟨F_addr_ParseNet_sig,⟨F_addr_ParseNet⟩⟩)],[]⟩
theorem F_conf_pattern_text:pvFn F_conf_pattern_env F_conf_pattern_ann Tryz.f136 F_conf_pattern_sig=F_conf_pattern:=by kernel_rfl
noncomputable def F_conf_span (s1:List Int):Option (Int×Int×Bool):=
 cond (s1==([42]:List Int))
 (some (1,65535,true))
 ((F_strings_Cut s1 ([45]:List Int)).bind fun x2=>
 cond (!x2.2.2)
 ((F_conf_number x2.1 1 65535).bind fun x3=>
 (F_conf_number x2.1 1 65535).bind fun x4=>
 some (x3.1,x4.1,((x3.2&&x4.2)&&(decide (x3.1<=x4.1)))))
 ((F_conf_number x2.1 1 65535).bind fun x5=>
 (F_conf_number x2.2.1 1 65535).bind fun x6=>
 some (x5.1,x6.1,((x5.2&&x6.2)&&(decide (x5.1<=x6.1))))))
def F_conf_span_sig:Sig:=⟨[.v false [.d .str]],[(false,[.d (.int .i64)]),(false,[.d (.int .i64)]),(false,[.d .bool])]⟩
def F_conf_span_ann:List (Nat×Ann):=[]
noncomputable def F_conf_span_env:Env:=⟨Tryz.prog,[(131,⟨F_conf_number_sig,⟨F_conf_number⟩⟩),(175,⟨F_strings_Cut_sig,⟨F_strings_Cut⟩⟩)],[]⟩
theorem F_conf_span_text:pvFn F_conf_span_env F_conf_span_ann Tryz.f137 F_conf_span_sig=F_conf_span:=by kernel_rfl
end Go.Proofs.YtgfmfgombmpodaaGreatDoor
namespace Go.Proofs.YtgfmfgombmpodaaGreatDoor
open Go.RowKit Go.Shelf Go.Lib Pv
set_option linter.unusedVariables false
theorem tmps_eq {a:Act} {n:Nat} (hs:a.tmps.size=n):a.tmps=((List.range n).map (tm a)).toArray:=by
 apply Array.ext
 ·simp [hs]
 ·intro i h1 h2
  simp only [List.getElem_toArray,List.getElem_map,List.getElem_range]
  unfold tm
  rw [Array.getD_eq_getD_getElem?,Array.getElem?_eq_getElem h1];rfl
noncomputable def colHands:List (Code×(PSt->Option (Bool×PSt))):=match Tryz.f232.body with
 | some c=>match annot F_addr_coloned_ann c 0 with
  | some (ac,_)=>(ac.withHand 29 insTail).hands
  | none=>[]
 | none=>[]
theorem list_range106 (f:Nat->Value):(List.range 106).map f=[f 0,f 1,f 2,f 3,f 4,f 5,f 6,f 7,f 8,f 9,f 10,f 11,f 12,f 13,f 14,f 15,f 16,f 17,f 18,f 19,f 20,f 21,f 22,f 23,f 24,f 25,f 26,f 27,f 28,f 29,f 30,f 31,f 32,f 33,f 34,f 35,f 36,f 37,f 38,f 39,f 40,f 41,f 42,f 43,f 44,f 45,f 46,f 47,f 48,f 49,f 50,f 51,f 52,f 53,f 54,f 55,f 56,f 57,f 58,f 59,f 60,f 61,f 62,f 63,f 64,f 65,f 66,f 67,f 68,f 69,f 70,f 71,f 72,f 73,f 74,f 75,f 76,f 77,f 78,f 79,f 80,f 81,f 82,f 83,f 84,f 85,f 86,f 87,f 88,f 89,f 90,f 91,f 92,f 93,f 94,f 95,f 96,f 97,f 98,f 99,f 100,f 101,f 102,f 103,f 104,f 105]:=rfl
set_option maxRecDepth 1000000 in
set_option maxHeartbeats 4000000 in
theorem col_walk (w0:World) (C:Com):∃ c,colHands=[(c,insTail)] /\ HandS Tryz.prog (F01 106 w0 C) c insTail:=by
 refine ⟨_,rfl,?_⟩
 intro g st st' a w hAR hst
 unfold insTail at hst
 split at hst
 case h_2=>cases hst
 rename_i k E l gg h4 h5
 split at hst
 case h_2=>cases hst
 rename_i hk
 simp only [Bool.and_eq_true] at hk
 injection hst with hst
 injection hst with hok hst
 have hs4:=hAR.rel.slots 4
 have hs5:=hAR.rel.slots 5
 rw [h4] at hs4
 rw [h5] at hs5
 obtain ⟨h5v,h5w⟩:=rel_int hs5
 obtain ⟨cs,hcs,hcs1⟩:=hs4
 obtain ⟨hrd,hown⟩:=repLs_single.1 hcs
 obtain ⟨v4,hv4,hO⟩:=hown hk.1
 have h4v:tm a 4=v4:=by
  have h:=hcs1.symm.trans hv4
  simpa using h
 have hE:E=5:=Nat.eq_of_beq_eq_true hk.2
 subst hE
 unfold insOk at hok
 simp only [Bool.and_eq_true,decide_eq_true_eq] at hok
 obtain ⟨⟨hg0,hg1⟩,hn⟩:=hok
 have hn:List.length l < 16:=by
  have:Nat.blt (List.length l) 16=true:=hn
  rwa [Nat.blt_eq] at this
 obtain ⟨n,hnl⟩:∃ n,List.length l=n:=⟨_,rfl⟩
 obtain ⟨gN,rfl⟩:∃ gN:Nat,gg=(gN:Int):=⟨Int.toNat gg,(Int.toNat_of_nonneg hg0).symm⟩
 obtain ⟨m,hm⟩:∃ m,n+m=16:=⟨16 - n,by omega⟩
 have hfr:=hAR.rel.fr
 have hN:w0.heap.size<=w.heap.size:=hfr.size
 have hin:∀ (w1:World) (hb:Below w.heap.size w w1),InRow w1 w0.heap.size l w.heap.size v4:=fun w1 hb=>by
  rcases hO with ⟨ad,rfl,hl,_⟩ | ⟨b,cap,cur,rfl,hblk,hcell,hlc,hcm,hcs,hel,hC,hW⟩
  ·exact .inl ⟨ad,rfl,hl⟩
  ·have hbw:b < w.heap.size:=(Array.getElem?_eq_some_iff.1 hcell).1
   refine .inr ⟨b,cap,cur,rfl,?_,by omega,by rw [hb.block b hbw];exact hcell,hlc,hcm,by rw [hcs];exact Nat.mul_one _,fun i x hx=>?_⟩
   ·rcases hW _ (Nat.le_refl _) with h | h
    ·exact h
    ·exact h.elim
   ·obtain ⟨h1,_⟩:=hel i x hx
    have hi:i < List.length l:=(List.getElem?_eq_some_iff.1 hx).1
    rw [show (Ty.int .u8).size=1 from rfl,Nat.mul_one] at h1
    have hlt:i < cur.size:=by rw [hcs,show (Ty.int .u8).size=1 from rfl];omega
    rw [List.drop_eq_getElem_cons (by simpa using hlt)] at h1
    simp only [List.take_succ_cons,List.take_zero,List.cons.injEq,and_true,Array.getElem_toList] at h1
    rw [Array.getElem?_eq_getElem hlt,h1]
 have hwf:∀ x∈(show List Int from l),(Lit.int .u8 x).wf=true:=fun x hx=>by
  obtain ⟨i,hi⟩:=List.mem_iff_getElem?.1 hx
  obtain ⟨ad,nn,c,_,_,_,_,h⟩:=hrd
  obtain ⟨_,us,_,_,_,h1⟩:=h i x hi
  exact h1.2
 have hsv:∃ a4 c4,v4=.slice a4 n c4:=by
  rcases hO with ⟨ad,rfl,hl,_⟩ | ⟨b,cap,cur,rfl,_⟩
  ·exact ⟨ad,0,by rw [<-hnl,hl];rfl⟩
  ·exact ⟨_,cap,by rw [hnl]⟩
 obtain ⟨a4,c4,rfl⟩:=hsv
 obtain ⟨f,hf⟩:∃ f,tm a=f:=⟨_,rfl⟩
 have ha:a={ tmps:=#[f 0,f 1,f 2,f 3,f 4,f 5,f 6,f 7,f 8,f 9,f 10,f 11,f 12,f 13,f 14,f 15,f 16,f 17,f 18,f 19,f 20,f 21,f 22,f 23,f 24,f 25,f 26,f 27,f 28,f 29,f 30,f 31,f 32,f 33,f 34,f 35,f 36,f 37,f 38,f 39,f 40,f 41,f 42,f 43,f 44,f 45,f 46,f 47,f 48,f 49,f 50,f 51,f 52,f 53,f 54,f 55,f 56,f 57,f 58,f 59,f 60,f 61,f 62,f 63,f 64,f 65,f 66,f 67,f 68,f 69,f 70,f 71,f 72,f 73,f 74,f 75,f 76,f 77,f 78,f 79,f 80,f 81,f 82,f 83,f 84,f 85,f 86,f 87,f 88,f 89,f 90,f 91,f 92,f 93,f 94,f 95,f 96,f 97,f 98,f 99,f 100,f 101,f 102,f 103,f 104,f 105],defers:=[] }:=by
  have h1:=tmps_eq hAR.size
  have h2:=hAR.defers
  obtain ⟨t,d⟩:=a
  rw [hf] at h1
  have h1:t=((List.range 106).map f).toArray:=h1
  have h2:d=[]:=h2
  rw [h1,h2,list_range106]
 rw [hf] at h4v h5v
 rw [ha]
 dsimp only [AC.erase]
 rw [h4v,h5v]
 have hsub:(16:Int) - (n:Int)=(m:Int):=by omega
 have hmm:(m:Int)<=16:=by omega
 have hm0:0 < m:=by omega
 have hgn':(gN:Int)<=(n:Int):=by rw [<-hnl];exact hg1
 have hgn:gN<=n:=by omega
 obtain ⟨i0,hi5,hz0,hz1,hz2⟩:=info_parts infoU
 have hmade:madeCells (Value.int .u8 0).cells (m*i0.size)=(zs m).toArray:=by
  rw [hz1,Nat.mul_one]
  apply Array.ext
  ·simp [madeCells,zs_len]
  ·intro i h1 h2
   simp [madeCells,zs,bv,Value.cells,Nat.mod_one]
 have hmk:(Instr.makeSlice 32 (.int .i64 (m:Int)) (.int .i64 (m:Int))).run Tryz.prog w=.ok (.slice (some ⟨w.heap.size,0,none⟩) m m) (w.alloc (.cells (zs m).toArray 5)):=by
  have h:=run_make (P:=Tryz.prog) w 32 5 i0 _ Tryz.underlying32 hi5 hz0 .i64 .i64 (m:Int) (m:Int) (by omega) (Int.le_refl _) (by rw [hz2];omega) (by omega)
  rw [Int.toNat_natCast,hmade] at h
  exact h
 have hbel0:Below w.heap.size w (w.alloc (.cells (zs m).toArray 5)):=(Below.refl _ _).alloc (Nat.le_refl _) _
 have hcall:=insert_calls l gN m ((congrArg (· + m) hnl).trans hm) hm0 (Nat.le_trans hgn (Nat.le_of_eq hnl.symm)) (w.alloc (.cells (zs m).toArray 5)) w0.heap.size w.heap.size (by rw [World.size_alloc];omega) (heap_alloc_new w _) (.slice a4 n c4) (hin _ hbel0)
 go_wp2_with (first | (simp only []) | (go_at_call 243;refine hcall.mono ?_;rintro e w' ⟨B,cap,rfl,hc1,hc2,hbel,hres⟩))
 have hlen16:(insZ l gN).length=16:=insZ_len (Nat.le_trans hgn (Nat.le_of_eq hnl.symm)) hn
 have hwfz:∀ x∈insZ l gN,(Lit.int .u8 x).wf=true:=fun x hx=>by
  unfold insZ at hx
  rcases List.mem_append.1 hx with hx | hx
  ·rcases List.mem_append.1 hx with hx | hx
   ·exact hwf x (List.mem_of_mem_take hx)
   ·rw [(List.mem_replicate.1 hx).2];rfl
  ·exact hwf x (List.mem_of_mem_drop hx)
 have hrep:RepD w' (fun _ _=>True) (.sl (.int .u8)) (insZ l gN) [.slice (some ⟨B,0,none⟩) 16 cap]:=by
  refine ⟨_,_,_,rfl,hlen16,hc1,hc2,fun i x hx=>⟨⟨B,0,none⟩,[.int .u8 x],rfl,rfl,fun j u hj=>?_,rfl,hwfz x (List.mem_of_getElem? hx)⟩⟩
  obtain ⟨hj0,rfl⟩:j=0 /\ u=.int .u8 x:=by
   match j,hj with
   | 0,hj=>simp at hj;exact ⟨rfl,hj.symm⟩
  subst hj0
  refine ⟨?_,trivial⟩
  rw [add_at,show (Ty.int .u8).size=1 from rfl,Nat.mul_one,Nat.add_zero,Nat.zero_add]
  exact hres i x hx
 obtain ⟨s,hrun,hs,hss⟩:=bytes_run (P:=Tryz.prog) Tryz.underlying32 Tryz.underlying5 Tryz.underlying9 hrep
 simp only [hrun]
 go_wp2
 refine ⟨⟨C,fun _=>none,g.ρ,fun _ _=>[]⟩,⟨rfl,rfl,?_⟩,rfl⟩
 rw [<-hst]
 have hold:∀ b,b < w0.heap.size->w'.heap[b]? = w0.heap[b]?:=fun b hb=>by
  rw [hbel.block b hb,hbel0.block b (by omega)]
  exact hfr.old b hb fun _ h=>h
 have hsz':w.heap.size<=w'.heap.size:=Nat.le_trans hbel0.size hbel.size
 refine ⟨⟨Nat.le_trans hN hsz',(hbel.os.trans hbel0.os).trans hfr.os,(hbel.tape.trans hbel0.tape).trans hfr.tape,(hbel.output.trans hbel0.output).trans hfr.output,fun b hb _=>hold b hb,fun b cs T fr hb hc=>⟨cs,fr,by rw [hold b hb];exact hc,rfl,fun _ _=>rfl⟩,fun _ _ _ _=>Iff.rfl,fun _ _ h=>h,fun b o h=>Nat.lt_of_lt_of_le (hfr.lim b o (hfr.mono b o h)) hsz'⟩,fun i=>?_,fun k σ ls hl=>(by cases hl),fun k σ ls hl=>(by cases hl),fun t b hk=>(by cases hk),fun i t want ag ls hi=>?_,fun d hd=>(by cases hd),fun i k hk=>?_,rfl,fun k k' b _ _ h=>(by cases h),fun k b j x _ h=>(by cases h),fun k b _ h=>(by cases h),fun k b _ h=>(by cases h),fun j j' x x' hj=>(by cases hj)⟩
 ·show RelP _ _ w' _ _ _ (match Nat.beq i 2 with | true=>pstr (insZ l gN) | false=>match Nat.beq i 3 with | true=>pbool true | false=>.dead)
  cases h2:Nat.beq i 2 with
  | true=>
   have:=Nat.eq_of_beq_eq_true h2
   subst this
   exact ⟨_,⟨_,[],rfl,⟨s,rfl,hs,hss⟩,rfl⟩,rfl⟩
  | false=>
   cases h3:Nat.beq i 3 with
   | true=>
    have:=Nat.eq_of_beq_eq_true h3
    subst this
    exact ⟨_,⟨_,[],rfl,rfl,rfl⟩,rfl⟩
   | false=>trivial
 ·have hi:(match Nat.beq i 2 with | true=>pstr (insZ l gN) | false=>match Nat.beq i 3 with | true=>pbool true | false=>.dead)=.spec t want ag ls:=hi
  split at hi
  ·cases hi
  ·split at hi <;> cases hi
 ·have hk:k∈keyP (match Nat.beq i 2 with | true=>pstr (insZ l gN) | false=>match Nat.beq i 3 with | true=>pbool true | false=>.dead):=hk
  split at hk
  ·cases hk
  ·split at hk <;> cases hk
theorem F_addr_coloned_hand:∀ (w:World) (C:Com) (c:Code) (ac:AC) (k:Nat),Tryz.f232.body=some c->annot F_addr_coloned_ann c 0=some (ac,k) -> ∀ p∈(ac.withHand 29 insTail).hands,HandS Tryz.prog (F01 Tryz.f232.ntmps w C) p.1 p.2:=by
 intro w C c ac k hc hac p hp
 obtain ⟨c0,h1,h2⟩:=col_walk w C
 have h3:colHands=(ac.withHand 29 insTail).hands:=by
  unfold colHands
  rw [hc]
  show (match annot F_addr_coloned_ann c 0 with | some (ac,_)=>(ac.withHand 29 insTail).hands | none=>[])=_
  rw [hac]
 rw [<-h3,h1] at hp
 obtain rfl:=List.mem_singleton.1 hp
 exact h2
end Go.Proofs.YtgfmfgombmpodaaGreatDoor
namespace Go.Proofs.YtgfmfgombmpodaaGreatDoor
open Pv
theorem F_conf_number_sound {T:Tab} (h_pow10:tab_pow10∈T) (h_errs:has_errs T):SoundFn Tryz.prog T 131 F_conf_number_sig ⟨F_conf_number⟩:=by
 have h:=fn_sound (T:=T) (E:=F_conf_number_env) (by unfold Env.ok;exact List.forall_mem_cons.2 ⟨F_strconv_Itoa_sound h_pow10,List.forall_mem_cons.2 ⟨F_strconv_Atoi_sound h_errs,fun p h=>by cases h⟩⟩) (A:=F_conf_number_ann) (f:=131) (fn:=Tryz.f131) (s:=F_conf_number_sig) Tryz.func131
 rw [F_conf_number_text] at h
 exact h
theorem F_conf_bytesOf_sound {T:Tab} (h_errs:has_errs T):SoundFn Tryz.prog T 134 F_conf_bytesOf_sig ⟨F_conf_bytesOf⟩:=by
 have h:=fn_sound (T:=T) (E:=F_conf_bytesOf_env) (by unfold Env.ok;exact List.forall_mem_cons.2 ⟨F_conf_Hex_sound,List.forall_mem_cons.2 ⟨F_strconv_ParseUint_sound h_errs,fun p h=>by cases h⟩⟩) (A:=F_conf_bytesOf_ann) (f:=134) (fn:=Tryz.f134) (s:=F_conf_bytesOf_sig) Tryz.func134
 rw [F_conf_bytesOf_text] at h
 exact h
theorem F_internal_stringslite_HasPrefix_sound {T:Tab}:SoundFn Tryz.prog T 230 F_internal_stringslite_HasPrefix_sig ⟨F_internal_stringslite_HasPrefix⟩:=by
 have h:=fn_sound (T:=T) (E:=F_internal_stringslite_HasPrefix_env) (by unfold Env.ok;exact fun p h=>by cases h) (A:=F_internal_stringslite_HasPrefix_ann) (f:=230) (fn:=Tryz.f230) (s:=F_internal_stringslite_HasPrefix_sig) Tryz.func230
 rw [F_internal_stringslite_HasPrefix_text] at h
 exact h
theorem F_internal_stringslite_CutPrefix_sound {T:Tab}:SoundFn Tryz.prog T 201 F_internal_stringslite_CutPrefix_sig ⟨F_internal_stringslite_CutPrefix⟩:=by
 have h:=fn_sound (T:=T) (E:=F_internal_stringslite_CutPrefix_env) (by unfold Env.ok;exact List.forall_mem_cons.2 ⟨F_internal_stringslite_HasPrefix_sound,fun p h=>by cases h⟩) (A:=F_internal_stringslite_CutPrefix_ann) (f:=201) (fn:=Tryz.f201) (s:=F_internal_stringslite_CutPrefix_sig) Tryz.func201
 rw [F_internal_stringslite_CutPrefix_text] at h
 exact h
theorem F_strings_CutPrefix_sound {T:Tab}:SoundFn Tryz.prog T 172 F_strings_CutPrefix_sig ⟨F_strings_CutPrefix⟩:=by
 have h:=fn_sound (T:=T) (E:=F_strings_CutPrefix_env) (by unfold Env.ok;exact List.forall_mem_cons.2 ⟨F_internal_stringslite_CutPrefix_sound,fun p h=>by cases h⟩) (A:=F_strings_CutPrefix_ann) (f:=172) (fn:=Tryz.f172) (s:=F_strings_CutPrefix_sig) Tryz.func172
 rw [F_strings_CutPrefix_text] at h
 exact h
theorem F_host_sign_sound {T:Tab}:SoundFn Tryz.prog T 202 F_host_sign_sig ⟨F_host_sign⟩:=by
 have h:=fn_sound (T:=T) (E:=F_host_sign_env) (by unfold Env.ok;exact fun p h=>by cases h) (A:=F_host_sign_ann) (f:=202) (fn:=Tryz.f202) (s:=F_host_sign_sig) Tryz.func202
 rw [F_host_sign_text] at h
 exact h
theorem F_host_Name_sound {T:Tab}:SoundFn Tryz.prog T 173 F_host_Name_sig ⟨F_host_Name⟩:=by
 have h:=fn_sound (T:=T) (E:=F_host_Name_env) (by unfold Env.ok;exact List.forall_mem_cons.2 ⟨F_host_sign_sound,fun p h=>by cases h⟩) (A:=F_host_Name_ann) (f:=173) (fn:=Tryz.f173) (s:=F_host_Name_sig) Tryz.func173
 rw [F_host_Name_text] at h
 exact h
theorem F_addr_kept_sound {T:Tab}:SoundFn Tryz.prog T 143 F_addr_kept_sig ⟨F_addr_kept⟩:=by
 have h:=fn_sound (T:=T) (E:=F_addr_kept_env) (by unfold Env.ok;exact fun p h=>by cases h) (A:=F_addr_kept_ann) (f:=143) (fn:=Tryz.f143) (s:=F_addr_kept_sig) Tryz.func143
 rw [F_addr_kept_text] at h
 exact h
theorem F_internal_stringslite_Cut_sound {T:Tab}:SoundFn Tryz.prog T 205 F_internal_stringslite_Cut_sig ⟨F_internal_stringslite_Cut⟩:=by
 have h:=fn_sound (T:=T) (E:=F_internal_stringslite_Cut_env) (by unfold Env.ok;exact List.forall_mem_cons.2 ⟨F_internal_stringslite_Index_sound,fun p h=>by cases h⟩) (A:=F_internal_stringslite_Cut_ann) (f:=205) (fn:=Tryz.f205) (s:=F_internal_stringslite_Cut_sig) Tryz.func205
 rw [F_internal_stringslite_Cut_text] at h
 exact h
theorem F_strings_Cut_sound {T:Tab}:SoundFn Tryz.prog T 175 F_strings_Cut_sig ⟨F_strings_Cut⟩:=by
 have h:=fn_sound (T:=T) (E:=F_strings_Cut_env) (by unfold Env.ok;exact List.forall_mem_cons.2 ⟨F_internal_stringslite_Cut_sound,fun p h=>by cases h⟩) (A:=F_strings_Cut_ann) (f:=175) (fn:=Tryz.f175) (s:=F_strings_Cut_sig) Tryz.func175
 rw [F_strings_Cut_text] at h
 exact h
theorem F_addr_decimal_sound {T:Tab} (h_pow10:tab_pow10∈T) (h_errs:has_errs T):SoundFn Tryz.prog T 204 F_addr_decimal_sig ⟨F_addr_decimal⟩:=by
 have h:=fn_sound (T:=T) (E:=F_addr_decimal_env) (by unfold Env.ok;exact List.forall_mem_cons.2 ⟨F_strconv_Itoa_sound h_pow10,List.forall_mem_cons.2 ⟨F_strconv_Atoi_sound h_errs,fun p h=>by cases h⟩⟩) (A:=F_addr_decimal_ann) (f:=204) (fn:=Tryz.f204) (s:=F_addr_decimal_sig) Tryz.func204
 rw [F_addr_decimal_text] at h
 exact h
theorem F_addr_dotted_sound {T:Tab} (h_maxlen:has_maxlen T) (h_pow10:tab_pow10∈T) (h_errs:has_errs T):SoundFn Tryz.prog T 231 F_addr_dotted_sig ⟨F_addr_dotted⟩:=by
 have h:=fn_sound (T:=T) (E:=F_addr_dotted_env) (by unfold Env.ok;exact List.forall_mem_cons.2 ⟨F_strings_Split_sound h_maxlen,List.forall_mem_cons.2 ⟨F_addr_decimal_sound h_pow10 h_errs,fun p h=>by cases h⟩⟩) (A:=F_addr_dotted_ann) (f:=231) (fn:=Tryz.f231) (s:=F_addr_dotted_sig) Tryz.func231
 rw [F_addr_dotted_text] at h
 exact h
theorem F_strings_HasPrefix_sound {T:Tab}:SoundFn Tryz.prog T 241 F_strings_HasPrefix_sig ⟨F_strings_HasPrefix⟩:=by
 have h:=fn_sound (T:=T) (E:=F_strings_HasPrefix_env) (by unfold Env.ok;exact List.forall_mem_cons.2 ⟨F_internal_stringslite_HasPrefix_sound,fun p h=>by cases h⟩) (A:=F_strings_HasPrefix_ann) (f:=241) (fn:=Tryz.f241) (s:=F_strings_HasPrefix_sig) Tryz.func241
 rw [F_strings_HasPrefix_text] at h
 exact h
theorem F_addr_digit_sound {T:Tab}:SoundFn Tryz.prog T 242 F_addr_digit_sig ⟨F_addr_digit⟩:=by
 have h:=fn_sound (T:=T) (E:=F_addr_digit_env) (by unfold Env.ok;exact fun p h=>by cases h) (A:=F_addr_digit_ann) (f:=242) (fn:=Tryz.f242) (s:=F_addr_digit_sig) Tryz.func242
 rw [F_addr_digit_text] at h
 exact h
theorem F_addr_coloned_sound {T:Tab}:SoundFn Tryz.prog T 232 F_addr_coloned_sig ⟨F_addr_coloned⟩:=by
 have h:=fn_soundH (T:=T) (E:=F_addr_coloned_env) (by unfold Env.ok;exact List.forall_mem_cons.2 ⟨F_strings_HasPrefix_sound,List.forall_mem_cons.2 ⟨F_addr_digit_sound,fun p h=>by cases h⟩⟩) (r:=29) (h:=insTail) (A:=F_addr_coloned_ann) (f:=232) (fn:=Tryz.f232) (s:=F_addr_coloned_sig) Tryz.func232 rfl rfl rfl F_addr_coloned_hand
 rw [F_addr_coloned_text] at h
 exact h
theorem F_internal_stringslite_TrimPrefix_sound {T:Tab}:SoundFn Tryz.prog T 247 F_internal_stringslite_TrimPrefix_sig ⟨F_internal_stringslite_TrimPrefix⟩:=by
 have h:=fn_sound (T:=T) (E:=F_internal_stringslite_TrimPrefix_env) (by unfold Env.ok;exact List.forall_mem_cons.2 ⟨F_internal_stringslite_HasPrefix_sound,fun p h=>by cases h⟩) (A:=F_internal_stringslite_TrimPrefix_ann) (f:=247) (fn:=Tryz.f247) (s:=F_internal_stringslite_TrimPrefix_sig) Tryz.func247
 rw [F_internal_stringslite_TrimPrefix_text] at h
 exact h
theorem F_strings_TrimPrefix_sound {T:Tab}:SoundFn Tryz.prog T 244 F_strings_TrimPrefix_sig ⟨F_strings_TrimPrefix⟩:=by
 have h:=fn_sound (T:=T) (E:=F_strings_TrimPrefix_env) (by unfold Env.ok;exact List.forall_mem_cons.2 ⟨F_internal_stringslite_TrimPrefix_sound,fun p h=>by cases h⟩) (A:=F_strings_TrimPrefix_ann) (f:=244) (fn:=Tryz.f244) (s:=F_strings_TrimPrefix_sig) Tryz.func244
 rw [F_strings_TrimPrefix_text] at h
 exact h
theorem F_addr_Plain_sound {T:Tab}:SoundFn Tryz.prog T 233 F_addr_Plain_sig ⟨F_addr_Plain⟩:=by
 have h:=fn_sound (T:=T) (E:=F_addr_Plain_env) (by unfold Env.ok;exact List.forall_mem_cons.2 ⟨F_strings_TrimPrefix_sound,fun p h=>by cases h⟩) (A:=F_addr_Plain_ann) (f:=233) (fn:=Tryz.f233) (s:=F_addr_Plain_sig) Tryz.func233
 rw [F_addr_Plain_text] at h
 exact h
theorem F_addr_Parse_sound {T:Tab} (h_maxlen:has_maxlen T) (h_pow10:tab_pow10∈T) (h_errs:has_errs T):SoundFn Tryz.prog T 203 F_addr_Parse_sig ⟨F_addr_Parse⟩:=by
 have h:=fn_sound (T:=T) (E:=F_addr_Parse_env) (by unfold Env.ok;exact List.forall_mem_cons.2 ⟨F_addr_dotted_sound h_maxlen h_pow10 h_errs,List.forall_mem_cons.2 ⟨F_addr_coloned_sound,List.forall_mem_cons.2 ⟨F_addr_Plain_sound,fun p h=>by cases h⟩⟩⟩) (A:=F_addr_Parse_ann) (f:=203) (fn:=Tryz.f203) (s:=F_addr_Parse_sig) Tryz.func203
 rw [F_addr_Parse_text] at h
 exact h
theorem F_addr_ParseNet_sound {T:Tab} (h_maxlen:has_maxlen T) (h_pow10:tab_pow10∈T) (h_errs:has_errs T):SoundFn Tryz.prog T 174 F_addr_ParseNet_sig ⟨F_addr_ParseNet⟩:=by
 have h:=fn_sound (T:=T) (E:=F_addr_ParseNet_env) (by unfold Env.ok;exact List.forall_mem_cons.2 ⟨F_addr_kept_sound,List.forall_mem_cons.2 ⟨F_strings_Cut_sound,List.forall_mem_cons.2 ⟨F_addr_Parse_sound h_maxlen h_pow10 h_errs,List.forall_mem_cons.2 ⟨F_addr_decimal_sound h_pow10 h_errs,fun p h=>by cases h⟩⟩⟩⟩) (A:=F_addr_ParseNet_ann) (f:=174) (fn:=Tryz.f174) (s:=F_addr_ParseNet_sig) Tryz.func174
 rw [F_addr_ParseNet_text] at h
 exact h
theorem F_conf_pattern_sound {T:Tab} (h_maxlen:has_maxlen T) (h_pow10:tab_pow10∈T) (h_errs:has_errs T):SoundFn Tryz.prog T 136 F_conf_pattern_sig ⟨F_conf_pattern⟩:=by
 have h:=fn_sound (T:=T) (E:=F_conf_pattern_env) (by unfold Env.ok;exact List.forall_mem_cons.2 ⟨F_strings_CutPrefix_sound,List.forall_mem_cons.2 ⟨F_host_Name_sound,List.forall_mem_cons.2 ⟨F_addr_ParseNet_sound h_maxlen h_pow10 h_errs,fun p h=>by cases h⟩⟩⟩) (A:=F_conf_pattern_ann) (f:=136) (fn:=Tryz.f136) (s:=F_conf_pattern_sig) Tryz.func136
 rw [F_conf_pattern_text] at h
 exact h
theorem F_conf_span_sound {T:Tab} (h_pow10:tab_pow10∈T) (h_errs:has_errs T):SoundFn Tryz.prog T 137 F_conf_span_sig ⟨F_conf_span⟩:=by
 have h:=fn_sound (T:=T) (E:=F_conf_span_env) (by unfold Env.ok;exact List.forall_mem_cons.2 ⟨F_conf_number_sound h_pow10 h_errs,List.forall_mem_cons.2 ⟨F_strings_Cut_sound,fun p h=>by cases h⟩⟩) (A:=F_conf_span_ann) (f:=137) (fn:=Tryz.f137) (s:=F_conf_span_sig) Tryz.func137
 rw [F_conf_span_text] at h
 exact h
end Go.Proofs.YtgfmfgombmpodaaGreatDoor
namespace Go.Proofs.YtgfmfgombmpodaaGreatDoor
open Go.RowKit Pv
set_option linter.unusedVariables false
abbrev TabAt (T:Tab) (w:World):Prop:=∀ p∈T,∃ ty fr,w.heap[p.1]? = some (.cells p.2 ty fr)
theorem TabAt.below {T:Tab} {w w':World} (h:TabAt T w) (hb:Below w.heap.size w w'):TabAt T w':=fun p hp=>by
 obtain ⟨ty,fr,h1⟩:=h p hp
 exact ⟨ty,fr,(hb.block p.1 (Array.getElem?_eq_some_iff.1 h1).1).trans h1⟩
structure Facts (T:Tab):Prop where
 pow10:tab_pow10∈T
 errs:has_errs T
 maxlen:has_maxlen T
theorem two_of {us:List Value} (h:us.length=2):us=[us.getD 0 undef,us.getD 1 undef]:=by
 match us,h with
 | [a,b],_=>rfl
theorem three_of {us:List Value} (h:us.length=3):us=[us.getD 0 undef,us.getD 1 undef,us.getD 2 undef]:=by
 match us,h with
 | [a,b,c],_=>rfl
theorem str_ok {W:World} {s:ByteArray} (h:s.size<=maxLen):(Arg.mk false (flat .str (bytesL s)) (.string s)).ok W:=Arg.mk_ok (τ:=.str) (cs:=[.string s]) (ag:=false) ⟨s,rfl,rfl,h⟩ rfl
theorem int_ok {W:World} {n:Int} (h:(Lit.int .i64 n).wf=true):(Arg.mk false (flat (.int .i64) n) (.int .i64 n)).ok W:=Arg.mk_ok (τ:=.int .i64) (cs:=[.int .i64 n]) (ag:=false) ⟨rfl,h⟩ rfl
theorem number_calls {T:Tab} (hf:Facts T) {W:World} (hT:TabAt T W) {s:ByteArray} (hs:s.size<=maxLen) {lo hi:Int} (wlo:(Lit.int .i64 lo).wf=true) (whi:(Lit.int .i64 hi).wf=true) {n:Int} {b:Bool} (h:F_conf_number (bytesL s) lo hi=some (n,b)) :
  Calls Tryz.prog 131 #[.string s,.int .i64 lo,.int .i64 hi] W fun e W'=>e=.returned (.tuple #[.int .i64 n,.bool b]) /\ (Lit.int .i64 n).wf=true /\ Below W.heap.size W W':=by
 refine (fn_calls hT (s:=F_conf_number_sig) (al:=[⟨false,flat .str (bytesL s),.string s⟩,⟨false,flat (.int .i64) lo,.int .i64 lo⟩,⟨false,flat (.int .i64) hi,.int .i64 hi⟩]) (y:=((n,b):Int×Bool)) (F_conf_number_sound hf.pow10 hf.errs) rfl Tryz.func131
  (List.forall_mem_cons.2 ⟨str_ok hs,List.forall_mem_cons.2 ⟨int_ok wlo,List.forall_mem_cons.2 ⟨int_ok whi,fun a h=>by cases h⟩⟩⟩) (appF_c (appF_c (appF_c (appF_n h))))).mono ?_
 rintro e W' ⟨us,g',st',rfl,h1,h2,h3,h4⟩
 have e2:(exitSt F_conf_number_sig ((n,b):Int×Bool)).map (fun st=>(st.φ 0,st.φ 1))=some (.w false [.d (.int .i64) n],.w false [.d .bool b]):=rfl
 rw [h2] at e2
 injection e2 with e2
 have r0:=h4 0
 have r1:=h4 1
 rw [show st'.φ 0=_ from congrArg Prod.fst e2] at r0
 rw [show st'.φ 1=_ from congrArg Prod.snd e2] at r1
 obtain ⟨q0,q1⟩:=rInt r0
 rw [two_of h1,q0,rBool r1]
 exact ⟨rfl,q1,h3⟩
theorem span_calls {T:Tab} (hf:Facts T) {W:World} (hT:TabAt T W) {s:ByteArray} (hs:s.size<=maxLen) {n m:Int} {b:Bool} (h:F_conf_span (bytesL s)=some (n,m,b)) :
  Calls Tryz.prog 137 #[.string s] W fun e W'=>e=.returned (.tuple #[.int .i64 n,.int .i64 m,.bool b]) /\ (Lit.int .i64 n).wf=true /\ (Lit.int .i64 m).wf=true /\ Below W.heap.size W W':=by
 refine (fn_calls hT (s:=F_conf_span_sig) (al:=[⟨false,flat .str (bytesL s),.string s⟩]) (y:=((n,m,b):Int×Int×Bool)) (F_conf_span_sound hf.pow10 hf.errs) rfl Tryz.func137
  (List.forall_mem_cons.2 ⟨str_ok hs,fun a h=>by cases h⟩) (appF_c (appF_n h))).mono ?_
 rintro e W' ⟨us,g',st',rfl,h1,h2,h3,h4⟩
 have e2:(exitSt F_conf_span_sig ((n,m,b):Int×Int×Bool)).map (fun st=>(st.φ 0,st.φ 1,st.φ 2))=some (.w false [.d (.int .i64) n],.w false [.d (.int .i64) m],.w false [.d .bool b]):=rfl
 rw [h2] at e2
 injection e2 with e2
 have r0:=h4 0
 have r1:=h4 1
 have r2:=h4 2
 rw [show st'.φ 0=_ from congrArg Prod.fst e2] at r0
 rw [show st'.φ 1=_ from congrArg (fun p=>p.2.1) e2] at r1
 rw [show st'.φ 2=_ from congrArg (fun p=>p.2.2) e2] at r2
 obtain ⟨q0,q1⟩:=rInt r0
 obtain ⟨q2,q3⟩:=rInt r1
 rw [three_of h1,q0,q2,rBool r2]
 exact ⟨rfl,q1,q3,h3⟩
theorem pattern_calls {T:Tab} (hf:Facts T) {W:World} (hT:TabAt T W) {s:ByteArray} (hs:s.size<=maxLen) {r:RuleD} {b:Bool} (h:F_conf_pattern (bytesL s)=some (r.1,r.2.1,r.2.2.1,r.2.2.2.1.1,r.2.2.2.1.2,r.2.2.2.2.1,r.2.2.2.2.2,b)) :
  Calls Tryz.prog 136 #[.string s] W fun e W'=>∃ cs:List Value,e=.returned (.tuple #[.agg ⟨cs⟩,.bool b]) /\ RepD W noC ruleT r cs /\ Below W.heap.size W W':=by
 obtain ⟨r0,r1,r2,⟨r3,r4⟩,r5,r6⟩:=r
 refine (fn_calls hT (s:=F_conf_pattern_sig) (al:=[⟨false,flat .str (bytesL s),.string s⟩]) (y:=((r0,r1,r2,r3,r4,r5,r6,b):Bool×Int×List Int×List Int×Int×Int×Int×Bool)) (F_conf_pattern_sound hf.maxlen hf.pow10 hf.errs) rfl Tryz.func136
  (List.forall_mem_cons.2 ⟨str_ok hs,fun a h=>by cases h⟩) (appF_c (appF_n h))).mono ?_
 rintro e W' ⟨us,g',st',rfl,h1,h2,h3,h4⟩
 have e2:(exitSt F_conf_pattern_sig ((r0,r1,r2,r3,r4,r5,r6,b):Bool×Int×List Int×List Int×Int×Int×Int×Bool)).map (fun st=>(st.φ 0,st.φ 1))=some (.w true [.d .bool r0,.d (.int .i64) r1,.d .str r2,.d .str r3,.d (.int .i64) r4,.d (.int .i64) r5,.d (.int .i64) r6],.w false [.d .bool b]):=rfl
 rw [h2] at e2
 injection e2 with e2
 have q0:=h4 0
 have q1:=h4 1
 rw [show st'.φ 0=_ from congrArg Prod.fst e2] at q0
 rw [show st'.φ 1=_ from congrArg Prod.snd e2] at q1
 obtain ⟨cs,k1,k2⟩:=q0
 have k2:us.getD 0 undef=.agg ⟨cs⟩:=k2
 have k3:=unflatAll_rep (t:=ruleT) (x:=((r0,r1,r2,(r3,r4),r5,r6):RuleD)) rfl k1
 rw [two_of h1,k2,rBool q1]
 exact ⟨cs,rfl,repD_flat rfl k3,h3⟩
theorem bytes_calls {T:Tab} (hf:Facts T) {W:World} (hT:TabAt T W) {s:ByteArray} (hs:s.size<=maxLen) {lo hi:Int} (wlo:(Lit.int .i64 lo).wf=true) (whi:(Lit.int .i64 hi).wf=true) {l:List Int} {b:Bool} (h:F_conf_bytesOf (bytesL s) lo hi=some (l,b)) :
  Calls Tryz.prog 134 #[.string s,.int .i64 lo,.int .i64 hi] W fun e W'=>∃ v,e=.returned (.tuple #[v,.bool b]) /\ (l≠[] -> ∃ xs,W'.ownsRow W.heap.size 5 1 v l.length xs /\ ∀ (i:Nat) (x:Int),l[i]? = some x->RepD W' noC (.int .u8) x ((xs.drop (i*1)).take 1)) /\ Below W.heap.size W W':=by
 refine (fn_calls hT (s:=F_conf_bytesOf_sig) (al:=[⟨false,flat .str (bytesL s),.string s⟩,⟨false,flat (.int .i64) lo,.int .i64 lo⟩,⟨false,flat (.int .i64) hi,.int .i64 hi⟩]) (y:=((l,b):List Int×Bool)) (F_conf_bytesOf_sound hf.errs) rfl Tryz.func134
  (List.forall_mem_cons.2 ⟨str_ok hs,List.forall_mem_cons.2 ⟨int_ok wlo,List.forall_mem_cons.2 ⟨int_ok whi,fun a h=>by cases h⟩⟩⟩) (appF_c (appF_c (appF_c (appF_n h))))).mono ?_
 rintro e W' ⟨us,g',st',rfl,h1,h2,h3,h4⟩
 have e2:(exitSt F_conf_bytesOf_sig ((l,b):List Int×Bool)).map (fun st=>(st.φ 0,st.φ 1,st.O (.hd 0 0)))=some (.w false [.own (.hd 0 0) 5 (.int .u8) l],.w false [.d .bool b],true):=rfl
 rw [h2] at e2
 injection e2 with e2
 have q0:=h4 0
 have q1:=h4 1
 rw [show st'.φ 0=_ from congrArg Prod.fst e2] at q0
 rw [show st'.φ 1=_ from congrArg (fun p=>p.2.1) e2] at q1
 have hO:st'.O (.hd 0 0)=true:=congrArg (fun p=>p.2.2) e2
 rw [two_of h1,rBool q1]
 refine ⟨_,rfl,fun hl=>?_,h3⟩
 obtain ⟨cs,g1,g2⟩:=q0
 have g2:cs=[us.getD 0 undef]:=g2
 subst g2
 obtain ⟨c1,c2,g3,⟨hrd,hown⟩,g4⟩:=g1
 have g4:c2=[]:=g4
 subst g4
 rw [List.append_nil] at g3
 subst g3
 obtain ⟨v,hv,hOw⟩:=hown hO
 injection hv with hv
 subst hv
 rcases hOw with ⟨a,_,hnil,_⟩ | ⟨bl,cap,cur,hv2,hblk,hcell,hlc,hcm,hcs,hel,hC,hW⟩
 ·exact absurd hnil hl
 rw [hv2]
 have hcs:cur.size=cap*1:=hcs
 refine ⟨cur.toList.take (List.length l*1),⟨?_,.inr ⟨bl,cap,cur,rfl,?_,hcell,hlc,hcm,hcs,rfl⟩⟩,fun i x hx=>?_⟩
 ·have hlc':l.length<=cap:=hlc
  have e3:cur.toList.length=cap*1:=Array.length_toList.trans hcs
  have e4:List.length l*1<=cur.toList.length:=by rw [e3];exact Nat.mul_le_mul_right _ hlc'
  rw [List.length_take,Nat.min_eq_left e4]
 ·rcases hW _ (Nat.le_refl _) with h | h
  ·exact h
  ·exact h.elim
 ·rw [take_row (List.getElem?_eq_some_iff.1 hx).1]
  exact repD_flat rfl (hel i x hx)
def usAt:List UserD->List Int->Int
 | [],_=>-1
 | u::r,s=>cond (u.1==s) 0 (cond (decide (usAt r s = -1)) (-1) (usAt r s+1))
set_option maxHeartbeats 4000000 in
set_option maxRecDepth 1000000 in
theorem atc_walk {w:World} {B:Nat} {nm:ByteArray} (hB:w.cell? ⟨B,0,none⟩=some (.string nm)) (c0:ByteArray) (v1 v2 v3 v4 v5:Value) :
  Calls Tryz.prog 169 #[.agg #[.string c0,v1,v2,v3,v4,v5],.pointer (some ⟨B,0,none⟩)] w fun e w'=>e=.returned (.bool (bytesL c0==bytesL nm)) /\ Below w.heap.size w w':=by
 have hlt:=cell_lt hB
 have hbe:=bytes_eq c0 nm
 go_enter Tryz.func169,Tryz.ntmps169
 go_wp2
 go_ret
 exact ⟨by rw [<-hbe];rfl,(Below.refl _ _).alloc (Nat.le_refl _) _⟩
set_option maxHeartbeats 4000000 in
set_option maxRecDepth 1000000 in
theorem ixu_walk {lo:Nat} {w:World} {role:Nat->Role} {us:List UserD} {v:Value} (hU:UsAt lo w role us v) (hlen:us.length<=16) {B:Nat} {nm:ByteArray} (hB:w.cell? ⟨B,0,none⟩=some (.string nm)) :
  Calls Tryz.prog 168 #[v,.func (.func 169) #[] #[.pointer (some ⟨B,0,none⟩)]] w fun e w'=>∃ r:Int,e=.returned (.int .i64 r) /\ -1<=r /\ r < us.length /\ (∀ i:Nat,(i:Int) < r \/ r = -1 -> ∀ u,us[i]? = some u->(u.1==bytesL nm)=false) /\ (∀ i:Nat,r=i -> ∃ u,us[i]? = some u /\ (u.1==bytesL nm)=true) /\ Below w.heap.size w w':=by
 obtain ⟨xs,h1,h2,h3⟩:=hU
 obtain ⟨ad,cap,hv⟩:∃ ad cap,v=.slice ad us.length cap:=by
  rcases h1.2 with ⟨rfl,hn⟩ | ⟨g,cap,cur,rfl,_⟩
  ·exact ⟨none,0,by rw [hn]⟩
  ·exact ⟨_,_,rfl⟩
 obtain ⟨n,hn⟩:∃ n,us.length=n:=⟨_,rfl⟩
 have hcells:∀ i u,us[i]? = some u -> ∃ (U:Nat) (c0:ByteArray) (v1 v2 v3 v4 v5:Value),ad=some ⟨U,0,none⟩ /\ U < w.heap.size /\ bytesL c0=u.1 /\ w.cell? ⟨U,i*6,none⟩=some (.string c0) /\ w.cell? ⟨U,i*6+1,none⟩=some v1 /\ w.cell? ⟨U,i*6+2,none⟩=some v2 /\ w.cell? ⟨U,i*6+3,none⟩=some v3 /\ w.cell? ⟨U,i*6+4,none⟩=some v4 /\ w.cell? ⟨U,i*6+5,none⟩=some v5:=fun i u hu=>by
  obtain ⟨nm',vs,vd,vr,q1,q2,_⟩:=h3 i u hu
  rcases h1.2 with ⟨rfl,hn⟩ | ⟨g,cap',cur,rfl,_,hg,_⟩
  ·have:=(List.getElem?_eq_some_iff.1 hu).1
   omega
  ·injection hv with e1 e2 e3
   obtain ⟨k0,k1,k2,k3,k4,k5⟩:=user_cells h1 q1
   exact ⟨g,nm',_,_,_,_,_,e1.symm,(Array.getElem?_eq_some_iff.1 hg).1,q2,k0,k1,k2,k3,k4,k5⟩
 rw [hv,hn]
 rw [hn] at hlen
 clear h1 h2 h3 hv
 have HC:Aside (∀ i u,us[i]? = some u -> ∃ (U:Nat) (c0:ByteArray) (v1 v2 v3 v4 v5:Value),ad=some ⟨U,0,none⟩ /\ U < w.heap.size /\ bytesL c0=u.1 /\ w.cell? ⟨U,i*6,none⟩=some (.string c0) /\ w.cell? ⟨U,i*6+1,none⟩=some v1 /\ w.cell? ⟨U,i*6+2,none⟩=some v2 /\ w.cell? ⟨U,i*6+3,none⟩=some v3 /\ w.cell? ⟨U,i*6+4,none⟩=some v4 /\ w.cell? ⟨U,i*6+5,none⟩=some v5):=hcells
 have HN:Aside (us.length=n):=hn
 clear hcells hn
 have hBlt:=cell_lt hB
 go_enter Tryz.func168,Tryz.ntmps168
 go_wp2
 go_loopw [8] (fun v wr=>∃ k:Nat,k<=n /\ v=.int .i64 k /\ Below w.heap.size w wr /\ Aside (∀ i:Nat,i < k -> ∀ u,us[i]? = some u->(u.1==bytesL nm)=false)) (fun v _=>n - (intOf v).toNat)
 case atStart=>exact ⟨0,by omega,rfl,Below.refl _ _,fun i hi=>absurd hi (by omega)⟩
 case round=>
  obtain ⟨k,hk,rfl,hb,HA⟩:=hrel
  by_cases hlt:k < n
  ·have hkl:k < us.length:=by rw [HN.out];exact hlt
   obtain ⟨u,hu⟩:∃ u,us[k]? = some u:=⟨_,List.getElem?_eq_getElem hkl⟩
   obtain ⟨U,c0,v1,v2,v3,v4,v5,rfl,hUl,hnm,k0,k1,k2,k3,k4,k5⟩:=HC.out k u hu
   rw [<-hb.cell hUl] at k0 k1 k2 k3 k4 k5
   have hBr:wr.cell? ⟨B,0,none⟩=some (.string nm):=(hb.cell hBlt).trans hB
   have hcl:=atc_walk hBr c0 v1 v2 v3 v4 v5
   rw [hnm] at hcl
   have hs:w.heap.size<=wr.heap.size:=hb.size
   have HU:Aside (us[k]? = some u):=hu
   clear hu hnm
   cases hq:u.1==bytesL nm with
   | true=>
    rw [hq] at hcl
    have HQ:Aside ((u.1==bytesL nm)=true):=hq
    clear hq
    go_wp2_with (first | (go_at_call 169;refine hcl.mono ?_;rintro e w' ⟨rfl,hw'⟩) | go_in)
    go_ret
    refine ⟨k,rfl,by omega,by omega,fun i hi u' hu'=>HA.out i (by omega) u' hu',fun i hi=>⟨u,?_,HQ.out⟩,hb.trans (hw'.mono hs)⟩
    obtain rfl:k=i:=by omega
    exact HU.out
   | false=>
    rw [hq] at hcl
    have HQ:Aside ((u.1==bytesL nm)=false):=hq
    clear hq
    go_wp2_with (first | (go_at_call 169;refine hcl.mono ?_;rintro e w' ⟨rfl,hw'⟩) | go_in)
    refine ⟨⟨k+1,by omega,by simp,hb.trans (hw'.mono hs),fun i hi u' hu'=>?_⟩,by simp [intOf];omega⟩
    rcases Nat.lt_or_ge i k with h | h
    ·exact HA.out i h u' hu'
    ·obtain rfl:i=k:=by omega
     rw [HU.out] at hu'
     injection hu' with hu'
     rw [<-hu']
     exact HQ.out
  ·obtain rfl:k=n:=by omega
   go_wp2
   go_ret
   refine ⟨-1,rfl,by omega,by omega,fun i hi u' hu'=>HA.out i ?_ u' hu',fun i hi=>by omega,hb⟩
   rw [<-HN.out]
   exact (List.getElem?_eq_some_iff.1 hu').1
theorem usAt_of:∀ {us:List UserD} {s:List Int} {r:Int},-1<=r->r < us.length->(∀ i:Nat,(i:Int) < r \/ r = -1 -> ∀ u,us[i]? = some u->(u.1==s)=false)->(∀ i:Nat,r=i -> ∃ u,us[i]? = some u /\ (u.1==s)=true)->usAt us s=r
  | [],s,r,h1,h2,h3,h4=>by
    have h2:r < 0:=h2
    show (-1:Int)=r
    omega
  | u::us,s,r,h1,h2,h3,h4=>by
    rw [List.length_cons] at h2
    show cond (u.1==s) 0 (cond (decide (usAt us s = -1)) (-1) (usAt us s+1))=r
    cases hq:u.1==s with
    | true=>
      show (0:Int)=r
      rcases Int.lt_or_le 0 r with h | h
      · have:=h3 0 (.inl (by omega)) u rfl
        rw [hq] at this
        cases this
      · rcases Int.lt_or_le r 0 with h' | h'
        · have:=h3 0 (.inr (by omega)) u rfl
          rw [hq] at this
          cases this
        · omega
    | false=>
      show cond (decide (usAt us s = -1)) (-1) (usAt us s+1)=r
      rcases Int.lt_or_le r 0 with h' | h'
      · have e:=usAt_of (us:=us) (s:=s) (r:=-1) (by omega) (by omega) (fun i hi u' hu'=>h3 (i+1) (.inr (by omega)) u' hu') (fun i hi=>by omega)
        rw [e]
        show (-1:Int)=r
        omega
      · have h0 : r ≠ 0 := fun h => by
          obtain ⟨u',hu',hq'⟩:=h4 0 (by omega)
          injection hu' with hu'
          rw [<-hu',hq] at hq'
          cases hq'
        have e:=usAt_of (us:=us) (s:=s) (r:=r - 1) (by omega) (by omega) (fun i hi u' hu'=>h3 (i+1) (.inl (by omega)) u' hu') (fun i hi=>h4 (i+1) (by omega))
        rw [e,decide_eq_false (by omega)]
        show r - 1+1=r
        omega
set_option maxHeartbeats 4000000 in
set_option maxRecDepth 1000000 in
theorem at_walk {lo:Nat} {w:World} {R M:Nat} {v:Value} {role:Nat->Role} {x:RSt} (h:RdAt lo w R M v role x) (hlen:x.us.length<=16) (nm:ByteArray) :
  Calls Tryz.prog 133 #[.pointer (some ⟨R,0,none⟩),.string nm] w fun e w'=>e=.returned (.int .i64 (usAt x.us (bytesL nm))) /\ Below w.heap.size w w':=by
 have h1:RdAt lo (w.alloc (.cells #[.string nm] 9)) R M v role x:=h.below ((Below.refl _ _).alloc (Nat.le_refl _) _)
 have hw:=ixu_walk h1.hU hlen (B:=w.heap.size) (nm:=nm) (by simp)
 have hb0:Below w.heap.size w (w.alloc (.cells #[.string nm] 9)):=(Below.refl _ _).alloc (Nat.le_refl _) _
 obtain ⟨_,_,_,_,_,_,_,c7,_,_⟩:=cells9 h1.hR
 have HW:Aside (Calls Tryz.prog 168 #[v,.func (.func 169) #[] #[.pointer (some ⟨w.heap.size,0,none⟩)]] (w.alloc (.cells #[.string nm] 9)) fun e w'=>e=.returned (.int .i64 (usAt x.us (bytesL nm))) /\ Below w.heap.size w w'):=hw.mono fun e w' ⟨r,he,r1,r2,r3,r4,hb⟩=>⟨by rw [he,usAt_of r1 r2 r3 r4],hb0.trans (hb.mono hb0.size)⟩
 clear hw h1 h
 go_enter Tryz.func133,Tryz.ntmps133
 go_wp2_with (first | (go_at_call 168;refine HW.out.mono ?_;rintro e w' ⟨rfl,hb⟩) | go_in)
 go_ret
 exact ⟨rfl,hb⟩
def okc (x:Int):Bool:=decide ((97<=x /\ x<=122) \/ (65<=x /\ x<=90) \/ (48<=x /\ x<=57) \/ x=46 \/ x=95 \/ x=45)
theorem okc_high {x:Int} (h:128<=x):okc x=false:=by
 exact decide_eq_false (by omega)
set_option maxHeartbeats 4000000 in
set_option maxRecDepth 1000000 in
theorem nmc_walk (r:Int) (w:World):Calls Tryz.prog 166 #[.int .i32 r] w fun e w'=>e=.returned (.bool (!(okc r))) /\ w'=w:=by
  go_enter Tryz.func166,Tryz.ntmps166
  go_wp2
  all_goals
    go_ret
    refine ⟨?_,rfl⟩
    unfold okc
    first
      | (rw [decide_eq_true (by omega)];rfl)
      | (rw [decide_eq_false (by omega)];rfl)
      | (refine congrArg (fun b => Ending.returned (Value.bool b)) ?_
         rw [Bool.eq_iff_iff]
         simp
         omega)
set_option maxHeartbeats 4000000 in
set_option maxRecDepth 1000000 in
theorem ixf_walk (s:ByteArray) (w:World):Calls Tryz.prog 227 #[.string s,.func (.func 166) #[] #[],.bool true] w fun e w'=>∃ r:Int,e=.returned (.int .i64 r) /\ decide (0<=r) = !((bytesL s).all okc) /\ Below w.heap.size w w':=by
 go_enter Tryz.func227,Tryz.ntmps227
 go_wp2
 go_loopw [] (fun w'=>∃ p:Nat,w'=w.iter s p /\ p<=s.size /\ ((bytesL s).take p).all okc=true) (fun w'=>s.size - w'.iterPos w.heap.size)
 case atStart=>exact ⟨0,rfl,Nat.zero_le _,rfl⟩
 case round=>
  obtain ⟨p,rfl,hp0,hall⟩:=hrel
  have HB:∀ q,Below w.heap.size w (w.iter s q):=fun q=>(Below.refl _ _).alloc (Nat.le_refl _) _
  have hlen:(bytesL s).length=s.size:=bytes_len s
  by_cases hp:p < s.size
  ·have hnx:∀ ty,(Instr.next (.pointer (some ⟨w.heap.size,0,none⟩)) true ty).run Tryz.prog (w.iter s p)=_:=fun ty=>run_next_any w s p ty hp
   obtain ⟨rb,hrb⟩:∃ rb,s[p]'hp=rb:=⟨_,rfl⟩
   have hget:(bytesL s)[p]? = some (byteI rb):=by
    show (s.data.toList.map byteI)[p]? = _
    rw [List.getElem?_map,Lib.data_getElem? s p hp,hrb];rfl
   by_cases hr:(s[p]'hp).toNat < 128
   ·have hd:Utf8.decode s p=(rb.toNat,1):=by rw [decode_ascii s p hp hr,hrb]
    rw [hd] at hnx
    dsimp only at hnx
    have hcl:=nmc_walk ((rb.toNat:Nat):Int) (w.iter s (p+1))
    cases hq:okc ((rb.toNat:Nat):Int) with
    | false=>
     rw [hq] at hcl
     go_wp2_with (first | (go_at_call 166;refine hcl.mono ?_;rintro e w' ⟨rfl,hw'⟩;rw [hw']) | go_in)
     go_ret
     refine ⟨_,rfl,?_,HB _⟩
     rw [decide_eq_true (by omega)]
     symm
     rw [Bool.not_eq_true',List.all_eq_false]
     exact ⟨_,List.mem_of_getElem? hget,by show ¬ okc ((rb.toNat:Nat):Int)=true;rw [hq];decide⟩
    | true=>
     rw [hq] at hcl
     go_wp2_with (first | (go_at_call 166;refine hcl.mono ?_;rintro e w' ⟨rfl,hw'⟩;rw [hw']) | go_in)
     refine ⟨⟨p+1,rfl,by omega,?_⟩,?_⟩
     ·rw [List.take_add_one,hget,List.all_append,hall]
      show (true&&([byteI rb].all okc))=true
      rw [List.all_cons,show okc (byteI rb)=true from hq];rfl
     ·simp
      omega
   ·obtain ⟨r,hrr⟩:∃ r,(Utf8.decode s p).1=r:=⟨_,rfl⟩
    obtain ⟨k,hkk⟩:∃ k,(Utf8.decode s p).2=k:=⟨_,rfl⟩
    obtain ⟨hr1,hk1⟩:=decode_high s p hp (by omega)
    rw [hrr] at hnx hr1
    rw [hkk] at hnx hk1
    have hq:okc (r:Int)=false:=okc_high (by omega)
    have hcl:=nmc_walk (r:Int) (w.iter s (p+k))
    rw [hq] at hcl
    go_wp2_with (first | (go_at_call 166;refine hcl.mono ?_;rintro e w' ⟨rfl,hw'⟩;rw [hw']) | go_in)
    go_ret
    refine ⟨_,rfl,?_,HB _⟩
    rw [decide_eq_true (by omega)]
    symm
    rw [Bool.not_eq_true',List.all_eq_false]
    refine ⟨_,List.mem_of_getElem? hget,?_⟩
    rw [show okc (byteI rb)=false from okc_high (by unfold byteI;rw [<-hrb];omega)]
    decide
  ·obtain rfl:p=s.size:=by omega
   have hnx:∀ ty,(Instr.next (.pointer (some ⟨w.heap.size,0,none⟩)) true ty).run Tryz.prog (w.iter s s.size)=_:=fun ty=>run_next_end w s s.size ty hp
   go_wp2
   go_ret
   refine ⟨-1,rfl,?_,HB _⟩
   rw [List.take_of_length_le (by omega)] at hall
   rw [hall];rfl
theorem bytes_nil (s:ByteArray):bytesL s=[]↔s.toList=[]:=by
 have h1:(bytesL s).length=s.size:=bytes_len s
 have h2:s.toList=s.data.toList:=toList_data s
 have h3:s.data.toList.length=s.size:=by simp
 constructor
 ·intro h
  rw [h2]
  exact List.eq_nil_of_length_eq_zero (by rw [h3,<- h1,h];rfl)
 ·intro h
  rw [h2] at h
  exact List.eq_nil_of_length_eq_zero (by rw [h1,<- h3,h];rfl)
set_option maxHeartbeats 4000000 in
set_option maxRecDepth 1000000 in
theorem nmd_walk (s:ByteArray) (w:World):Calls Tryz.prog 132 #[.string s] w fun e w'=>e=.returned (.bool (!(List.isEmpty (bytesL s))&&Nat.ble (bytesL s).length 64&&(bytesL s).all okc)) /\ Below w.heap.size w w':=by
  have hix:=fun w=>ixf_walk s w
  have hif:∀ w,Calls Tryz.prog 198 #[.string s,.func (.func 166) #[] #[]] w fun e w'=>∃ r:Int,e=.returned (.int .i64 r) /\ decide (0<=r) = !((bytesL s).all okc) /\ Below w.heap.size w w':=by
    intro w
    go_enter Tryz.func198,Tryz.ntmps198
    go_wp2_with (go_at_call 227;refine (hix w).mono ?_;rintro e w' ⟨r,rfl,hr,hb⟩)
    go_ret
    exact ⟨r,rfl,hr,hb⟩
  have hcf:∀ w,Calls Tryz.prog 167 #[.string s,.func (.func 166) #[] #[]] w fun e w'=>e=.returned (.bool (!((bytesL s).all okc))) /\ Below w.heap.size w w':=by
    intro w
    go_enter Tryz.func167,Tryz.ntmps167
    go_wp2_with (go_at_call 198;refine (hif w).mono ?_;rintro e w' ⟨r,rfl,hr,hb⟩)
    go_ret
    rw [<-hr]
    exact ⟨by simp,hb⟩
  obtain ⟨R,hR⟩:∃ R,R=(!(List.isEmpty (bytesL s))&&Nat.ble (bytesL s).length 64&&(bytesL s).all okc):=⟨_,rfl⟩
  have HR:Aside (R=(!(List.isEmpty (bytesL s))&&Nat.ble (bytesL s).length 64&&(bytesL s).all okc)):=hR
  rw [<-hR]
  clear hR
  go_enter Tryz.func132,Tryz.ntmps132
  go_wp2_with (go_at_call 167;refine (hcf w).mono ?_;rintro e w' ⟨rfl,hb⟩)
  all_goals
    have hlen:(bytesL s).length=s.size:=bytes_len s
    go_ret
    refine ⟨?_,?_⟩
    · rw [HR.out,hlen]
      first
        | (have e0 : bytesL s = [] := (bytes_nil s).2 (by assumption)
           rw [e0];rfl)
        | (have e0 : ¬ bytesL s = [] := fun h => absurd ((bytes_nil s).1 h) (by assumption)
           have e1:(bytesL s).isEmpty=false:=by rw [Bool.eq_false_iff];intro h;exact e0 (List.isEmpty_iff.1 h)
           have e2:s.toList.isEmpty=false:=by rw [Bool.eq_false_iff];intro h;exact e0 ((bytes_nil s).2 (List.isEmpty_iff.1 h))
           rw [e1]
           first
             | (rw [show Nat.ble s.size 64=true from Nat.ble_eq_true_of_le (by omega)];refine congrArg (fun b=>Ending.returned (Value.bool b)) ?_;simp [e2])
             | (rw [show Nat.ble s.size 64=false from Bool.eq_false_iff.2 fun h=>absurd (Nat.le_of_ble_eq_true h) (by omega)];rfl))
    · first | exact Below.refl _ _ | exact hb
def F_conf_named (l:List Int):Option Bool:=some (!(List.isEmpty l)&&Nat.ble l.length 64&&l.all okc)
end Go.Proofs.YtgfmfgombmpodaaGreatDoor
namespace Go.Proofs.YtgfmfgombmpodaaGreatDoor
namespace Vc
open Ieee
theorem log2_mul {m:Nat} (hm:m≠0) (k:Nat):(m*2 ^ k).log2=m.log2+k:=by
 have h:=(Nat.log2_eq_iff hm).1 rfl
 have hp:0 < 2 ^ k:=Nat.two_pow_pos k
 rw [Nat.log2_eq_iff (by have:=Nat.mul_pos (Nat.pos_of_ne_zero hm) hp;omega)]
 rw [Nat.pow_add,show m.log2+k+1=(m.log2+1)+k by omega,Nat.pow_add]
 exact ⟨Nat.mul_le_mul_right _ h.1,Nat.mul_lt_mul_of_pos_right h.2 hp⟩
theorem log2_lt {m:Nat} (h:m < 2 ^ 53):m.log2<=52:=by
 by_cases hm:m=0
 ·subst hm;decide
 ·have h1:=(Nat.log2_eq_iff hm).1 rfl
  rcases Nat.lt_or_ge 52 m.log2 with h2 | h2
  ·have:2 ^ 53<=2 ^ m.log2:=Nat.pow_le_pow_right (by decide) h2
   omega
  ·exact h2
theorem cut_exact (way:Toward) (neg:Bool) (q d:Nat) (hw:way=.even \/ way=.zero):way.cut neg (q*2 ^ d) d=q:=by
 by_cases hq:q=0
 ·subst hq
  have hg:0 < 1 <<< min d ((0*2 ^ d).log2+2):=by rw [Nat.shiftLeft_eq,Nat.one_mul];exact Nat.two_pow_pos _
  unfold Toward.cut
  simp only [Nat.zero_mul,Nat.zero_div,Nat.zero_mod] at hg ⊢
  rcases hw with rfl | rfl
  ·simp
  ·simp
 ·have hl:=log2_mul hq d
  unfold Toward.cut
  rw [hl,show min d (q.log2+d+2)=d by omega,Nat.shiftLeft_eq,Nat.one_mul]
  dsimp only
  rw [Nat.mul_div_cancel _ (Nat.two_pow_pos d),Nat.mul_mod_left]
  have:2 ^ d≠0:=Nat.ne_of_gt (Nat.two_pow_pos d)
  rcases hw with rfl | rfl
  ·simp
  ·simp
def fw (neg:Bool) (m:Nat):Nat:=if m=0 then double.word neg 0 else double.word neg ((m.log2+1022)*2 ^ 52+m*2 ^ (52 - m.log2))
theorem near (neg:Bool) {m:Nat} (h:m < 2 ^ 53) (k:Nat):double.nearest neg (m*2 ^ k) (-(k:Int))=fw neg m:=by
  have hL:=log2_lt h
  by_cases hm:m=0
  · subst hm;simp [Format.nearest,fw]
  · have hk:m*2 ^ k≠0:=by have:=Nat.mul_pos (Nat.pos_of_ne_zero hm) (Nat.two_pow_pos k);omega
    have hlog:=log2_mul hm k
    have hb:=(Nat.log2_eq_iff hm).1 rfl
    have hle:double.leastPlace = -1074:=by decide
    have hf:double.fractionBits=52:=rfl
    unfold Format.nearest fw
    rw [if_neg hk,if_neg hm,hlog,hle,hf]
    have hlast:max (-(k:Int)+((m.log2+k:Nat):Int) - ((52:Nat):Int)) (-1074)=(m.log2:Int) - 52:=by omega
    simp only [hlast]
    have hkept:Toward.even.cut neg ((m*2 ^ k) <<< (-(k:Int) - ((m.log2:Int) - 52)).toNat) ((m.log2:Int) - 52 - -(k:Int)).toNat=m*2 ^ (52 - m.log2):=by
      by_cases hc:k<=52 - m.log2
      · rw [show (-(k : Int) - ((m.log2 : Int) - 52)).toNat = 52 - m.log2 - k by omega, show ((m.log2 : Int) - 52 - -(k : Int)).toNat = 0 by omega, Nat.shiftLeft_eq, Nat.mul_assoc, <- Nat.pow_add,
          show k+(52 - m.log2 - k)=52 - m.log2 by omega]
        have:=cut_exact .even neg (m*2 ^ (52 - m.log2)) 0 (.inl rfl)
        rwa [Nat.pow_zero,Nat.mul_one] at this
      · rw [show (-(k:Int) - ((m.log2:Int) - 52)).toNat=0 by omega,show ((m.log2:Int) - 52 - -(k:Int)).toNat=k - (52 - m.log2) by omega,Nat.shiftLeft_eq,Nat.pow_zero,Nat.mul_one]
        have:=cut_exact .even neg (m*2 ^ (52 - m.log2)) (k - (52 - m.log2)) (.inl rfl)
        rwa [Nat.mul_assoc,<- Nat.pow_add,show 52 - m.log2+(k - (52 - m.log2))=k by omega] at this
    rw [hkept,show ((m.log2:Int) - 52 - -1074).toNat=m.log2+1022 by omega]
    have hbin:double.binade=2 ^ 52:=rfl
    have hinf:double.infRung=2047*2 ^ 52:=rfl
    rw [hbin,hinf]
    have hlt:m*2 ^ (52 - m.log2) < 2 ^ 53:=by
      have:=Nat.mul_lt_mul_of_pos_right hb.2 (Nat.two_pow_pos (52 - m.log2))
      rw [<-Nat.pow_add,show m.log2+1+(52 - m.log2)=53 by omega] at this
      exact this
    generalize m*2 ^ (52 - m.log2)=K at hlt ⊢
    rw [Nat.min_eq_left (by omega)]
def fl (n:Int):Nat:=FloatKind.f64.nearest n
theorem fl_fw {n:Int} (h:n.natAbs < 2 ^ 53):fl n=fw (decide (n < 0)) n.natAbs:=by
 have:=near (decide (n < 0)) h 0
 rw [Nat.pow_zero,Nat.mul_one] at this
 exact this
def Stands (d:Datum) (n:Int):Prop:=∃ k:Nat,d=.number (decide (n < 0)) (n.natAbs*2 ^ k) (-(k:Int))
theorem stands0:Stands (.number false 0 (-1074)) 0:=by
 refine ⟨1074,?_⟩
 generalize (2:Nat) ^ 1074=z
 rw [show Int.natAbs 0*z=0 from Nat.zero_mul z]
 rfl
theorem read_fl {n:Int} (h:n.natAbs < 2 ^ 53):Stands (double.read (fl n)) n:=by
 rw [fl_fw h]
 unfold fw
 by_cases hm:n.natAbs=0
 ·have:n=0:=by omega
  subst this
  have h2:double.read (double.word (decide ((0:Int) < 0)) 0)=.number false 0 (-1074):=by decide
  rw [if_pos hm,h2]
  exact stands0
 ·rw [if_neg hm]
  have hL:=log2_lt h
  have hb:=(Nat.log2_eq_iff hm).1 rfl
  have h1:2 ^ 52<=n.natAbs*2 ^ (52 - n.natAbs.log2):=by
   have:=Nat.mul_le_mul_right (2 ^ (52 - n.natAbs.log2)) hb.1
   rwa [<-Nat.pow_add,show n.natAbs.log2+(52 - n.natAbs.log2)=52 by omega] at this
  have h2:n.natAbs*2 ^ (52 - n.natAbs.log2) < 2 ^ 53:=by
   have:=Nat.mul_lt_mul_of_pos_right hb.2 (Nat.two_pow_pos (52 - n.natAbs.log2))
   rwa [<-Nat.pow_add,show n.natAbs.log2+1+(52 - n.natAbs.log2)=53 by omega] at this
  refine ⟨52 - n.natAbs.log2,?_⟩
  generalize hK:n.natAbs*2 ^ (52 - n.natAbs.log2)=K at h1 h2 ⊢
  generalize n.natAbs.log2=L at hL ⊢
  have hbin:double.binade=4503599627370496:=by decide
  have hinf:double.infRung=9218868437227405312:=by decide
  have hsw:double.signWeight=9223372036854775808:=by decide
  have hle:double.leastPlace = -1074:=by decide
  have w1:∀ neg:Bool,double.word neg ((L+1022)*2 ^ 52+K) / 9223372036854775808 % 2=neg.toNat /\ double.word neg ((L+1022)*2 ^ 52+K) % 9223372036854775808=(L+1022)*2 ^ 52+K:=fun neg=>by
   unfold Format.word
   rw [hsw]
   cases neg <;> simp <;> omega
  obtain ⟨a1,a2⟩:=w1 (decide (n < 0))
  unfold Format.read
  rw [hsw,hbin,hinf,hle,a1,a2]
  simp only
  rw [if_neg (by omega),if_pos (by omega)]
  congr 1
  ·cases decide (n < 0) <;> rfl
  ·omega
  ·omega
theorem signed_abs (n:Int) (k j:Nat):signed (decide (n < 0)) (n.natAbs*2 ^ k) j=n*2 ^ (k+j):=by
 unfold signed
 rw [Nat.shiftLeft_eq,Nat.mul_assoc,<- Nat.pow_add]
 by_cases h:n < 0
 ·simp only [h,decide_true,if_true]
  rw [Int.natCast_mul,Int.natCast_pow]
  have:(n.natAbs:Int) = -n:=by omega
  rw [this,Int.neg_mul,Int.neg_neg]
  rfl
 ·simp only [h,decide_false,Bool.false_eq_true,if_false]
  rw [Int.natCast_mul,Int.natCast_pow]
  have:(n.natAbs:Int)=n:=by omega
  rw [this]
  rfl
theorem base_eq (k l:Nat):min (-(k:Int)) (-(l:Int)) = -((max k l:Nat):Int):=by omega
theorem order_stands {d e:Datum} {a b:Int} (hd:Stands d a) (he:Stands e b):d.order e=some (compare a b):=by
 obtain ⟨k,rfl⟩:=hd
 obtain ⟨l,rfl⟩:=he
 unfold Datum.order
 simp only [base_eq]
 rw [show (-(k:Int) - -((max k l:Nat):Int)).toNat=max k l - k by omega,show (-(l:Int) - -((max k l:Nat):Int)).toNat=max k l - l by omega,signed_abs,signed_abs,
  show k+(max k l - k)=max k l by omega,show l+(max k l - l)=max k l by omega]
 have hp:(0:Int) < 2 ^ (max k l):=Int.pow_pos (by decide)
 congr 1
 simp only [compare,compareOfLessAndEq]
 have e1:a*2 ^ max k l < b*2 ^ max k l↔a < b:=⟨fun h=>Int.lt_of_mul_lt_mul_right h (Int.le_of_lt hp),fun h=>Int.mul_lt_mul_of_pos_right h hp⟩
 have e2:a*2 ^ max k l=b*2 ^ max k l↔a=b:=⟨fun h=>Int.eq_of_mul_eq_mul_right (by omega) h,fun h=>by rw [h]⟩
 simp only [e1,e2]
theorem toInt_stands {d:Datum} {a:Int} (hd:Stands d a):d.toInt .zero=some a:=by
 obtain ⟨k,rfl⟩:=hd
 unfold Datum.toInt Datum.integral
 simp only
 rw [show (-(k:Int)).toNat=0 by omega,show (- -(k:Int)).toNat=k by omega,Nat.shiftLeft_eq,Nat.pow_zero,Nat.mul_one,cut_exact .zero _ _ _ (.inr rfl)]
 have:=signed_abs a 0 0
 simp only [Nat.pow_zero,Nat.mul_one] at this
 rw [this]
 simp
theorem fl_order {a b:Int} (ha:a.natAbs < 2 ^ 53) (hb:b.natAbs < 2 ^ 53):FloatKind.f64.format.order (fl a) (fl b)=some (compare a b):=order_stands (read_fl ha) (read_fl hb)
theorem fl_toInt {a:Int} (ha:a.natAbs < 2 ^ 53):(FloatKind.f64.decode (fl a)).toInt .zero=some a:=toInt_stands (read_fl ha)
end Vc
end Go.Proofs.YtgfmfgombmpodaaGreatDoor
namespace Go.Proofs.YtgfmfgombmpodaaGreatDoor
open Go.RowKit Pv Vc Ieee
set_option linter.unusedVariables false
def Cnt (n:Int):Prop:=0<=n /\ n<=1125899906842624
theorem Cnt.abs {n:Int} (h:Cnt n):n.natAbs < 2 ^ 53:=by
 unfold Cnt at h
 omega
theorem real_eq (ts:Array TypeId) (t:TypeId) (k:FloatKind) (x y:Nat):Builtin.real_ ts t #[.complex k x y]=pure (.float k x):=rfl
theorem imag_eq (ts:Array TypeId) (t:TypeId) (k:FloatKind) (x y:Nat):Builtin.imag_ ts t #[.complex k x y]=pure (.float k y):=rfl
theorem cplx_eq (ts:Array TypeId) (t:TypeId) (x y:Nat):Builtin.complex_ ts t #[.float .f64 x,.float .f64 y]=pure (.complex .f64 x y):=rfl
theorem wpList_real {P:Program} {ops:Array Oper} {rest:List Oper} {o:Oper} {a:Act} {w:World} {Q:Exit->Act->World->Prop} (hgd:o.guard=none) (s:Operand) (t:TypeId)
  (ho:o.op=.call { callee:=.builtin .real,args:=#[s],argTypes:=#[t] }) (k:FloatKind) (x y:Nat) (hs:a.eval s=.complex k x y) (h:wpList P ops Q rest (a.put o.dst (.float k x)) w):wpList P ops Q (o::rest) a w:=by
 refine wpList_plain hgd fun K hK=>?_
 unfold Oper.wp execOp
 simp only [ho,resolve,invoke,builtin,Sem.run_bind,Sem.run_pure,Result.andThen_ok,List.map_toArray,List.map_cons,List.map_nil,hs,real_eq]
 exact hK _ _ h
theorem wpList_imag {P:Program} {ops:Array Oper} {rest:List Oper} {o:Oper} {a:Act} {w:World} {Q:Exit->Act->World->Prop} (hgd:o.guard=none) (s:Operand) (t:TypeId)
  (ho:o.op=.call { callee:=.builtin .imag,args:=#[s],argTypes:=#[t] }) (k:FloatKind) (x y:Nat) (hs:a.eval s=.complex k x y) (h:wpList P ops Q rest (a.put o.dst (.float k y)) w):wpList P ops Q (o::rest) a w:=by
 refine wpList_plain hgd fun K hK=>?_
 unfold Oper.wp execOp
 simp only [ho,resolve,invoke,builtin,Sem.run_bind,Sem.run_pure,Result.andThen_ok,List.map_toArray,List.map_cons,List.map_nil,hs,imag_eq]
 exact hK _ _ h
theorem wpList_cplx {P:Program} {ops:Array Oper} {rest:List Oper} {o:Oper} {a:Act} {w:World} {Q:Exit->Act->World->Prop} (hgd:o.guard=none) (s s':Operand) (t t':TypeId)
  (ho:o.op=.call { callee:=.builtin .complex,args:=#[s,s'],argTypes:=#[t,t'] }) (x y:Nat) (hs:a.eval s=.float .f64 x) (hs':a.eval s'=.float .f64 y) (h:wpList P ops Q rest (a.put o.dst (.complex .f64 x y)) w):wpList P ops Q (o::rest) a w:=by
 refine wpList_plain hgd fun K hK=>?_
 unfold Oper.wp execOp
 simp only [ho,resolve,invoke,builtin,Sem.run_bind,Sem.run_pure,Result.andThen_ok,List.map_toArray,List.map_cons,List.map_nil,hs,hs',cplx_eq]
 exact hK _ _ h
theorem fl_zero:fl 0=0:=by decide +kernel
theorem fl_most:fl 1125899906842624=4832362400168542208:=by decide +kernel
theorem fl_geq {n:Int} (h:Cnt n) (t:TypeId) (w:World):(binOp .geq t (.float .f64 (fl n)) (.float .f64 0)).run Tryz.prog w=.ok (.bool true) w:=by
 have e:=fl_order (a:=n) (b:=0) h.abs (by decide)
 rw [fl_zero] at e
 unfold binOp Op.floatCmp
 simp only [ne_eq,not_true_eq_false,if_false,e,Sem.run_pure]
 congr 2
 obtain ⟨h0,_⟩:=h
 rcases Int.lt_or_eq_of_le h0 with h1 | h1
 ·rw [show compare n 0=.gt from Int.compare_eq_gt.2 h1];rfl
 ·rw [<-h1];rfl
theorem fl_leq {n:Int} (h:Cnt n) (t:TypeId) (w:World):(binOp .leq t (.float .f64 (fl n)) (.float .f64 4832362400168542208)).run Tryz.prog w=.ok (.bool true) w:=by
 have e:=fl_order (a:=n) (b:=1125899906842624) h.abs (by decide)
 rw [fl_most] at e
 unfold binOp Op.floatCmp
 simp only [ne_eq,not_true_eq_false,if_false,e,Sem.run_pure]
 congr 2
 obtain ⟨_,h0⟩:=h
 rcases Int.lt_or_eq_of_le h0 with h1 | h1
 ·rw [show compare n 1125899906842624=.lt from Int.compare_eq_lt.2 h1];rfl
 ·rw [h1];rfl
theorem fl_eql {n:Int} (h:Cnt n) (t:TypeId) (w:World):(binOp .eql t (.float .f64 (fl n)) (.float .f64 (fl n))).run Tryz.prog w=.ok (.bool true) w:=by
 have e:=fl_order (a:=n) (b:=n) h.abs h.abs
 unfold binOp Op.floatCmp
 simp only [ne_eq,not_true_eq_false,if_false,e,Sem.run_pure]
 congr 2
 rw [show compare n n=.eq from Int.compare_eq_eq.2 rfl];rfl
theorem fl_toI {n:Int} (h:Cnt n) (w:World):(convert 64 3 (.float .f64 (fl n))).run Tryz.prog w=.ok (.int .i64 n) w:=by
 have e:=fl_toInt h.abs
 unfold convert
 simp only [Sem.run_bind,run_underlying Tryz.underlying64,run_underlying Tryz.underlying3,Result.andThen_ok]
 unfold Conv.floatToInt
 simp only [e]
 rw [if_pos (by obtain ⟨h0,h1⟩:=h;simp [IntKind.min,IntKind.max,IntKind.signed,IntKind.bits];omega)]
 rfl
theorem fl_ofI (n:Int) (w:World):(convert 3 64 (.int .i64 n)).run Tryz.prog w=.ok (.float .f64 (fl n)) w:=by
 unfold convert
 simp only [Sem.run_bind,run_underlying Tryz.underlying64,run_underlying Tryz.underlying3,Result.andThen_ok]
 rfl
set_option maxHeartbeats 4000000 in
set_option maxRecDepth 1000000 in
theorem cnt_walk {n:Int} (h:Cnt n) (w:World):Calls Tryz.prog 146 #[.float .f64 (fl n)] w fun e w'=>e=.returned (.tuple #[.int .i64 n,.bool true]) /\ w'=w:=by
 have q1:=fl_geq h
 have q2:=fl_leq h
 have q3:=fl_eql h
 have q4:=fl_toI h
 have q5:=fl_ofI n
 go_enter Tryz.func146,Tryz.ntmps146
 go_wp2
 go_ret2
 exact ⟨rfl,rfl⟩
set_option maxHeartbeats 4000000 in
set_option maxRecDepth 1000000 in
theorem prt_walk {n m:Int} (h:Cnt n) (k:Cnt m) (w:World):Calls Tryz.prog 111 #[.complex .f64 (fl n) (fl m)] w fun e w'=>e=.returned (.tuple #[.int .i64 n,.int .i64 m,.bool true]) /\ w'=w:=by
 have c1:=cnt_walk h w
 have c2:=cnt_walk k w
 go_enter Tryz.func111,Tryz.ntmps111
 go_wp2_with (first | (refine wpList_real rfl _ _ rfl .f64 (fl n) (fl m) rfl ?_) | (refine wpList_imag rfl _ _ rfl .f64 (fl n) (fl m) rfl ?_) | (go_at_call 146;(with_reducible refine c1.mono ?_);rintro e w' ⟨rfl,rfl⟩) | (go_at_call 146;(with_reducible refine c2.mono ?_);rintro e w' ⟨rfl,rfl⟩))
 go_ret3
 exact ⟨rfl,rfl⟩
set_option maxHeartbeats 4000000 in
set_option maxRecDepth 1000000 in
theorem pair_walk {n m:Int} (h:Cnt n) (k:Cnt m) (w:World):Calls Tryz.prog 135 #[.int .i64 n,.int .i64 m] w fun e w'=>e=.returned (.tuple #[.complex .f64 (fl n) (fl m),.int .i64 0]) /\ w'=w:=by
 have q5:=fl_ofI n
 have q6:=fl_ofI m
 have c1:=prt_walk h k
 have hi:∀ w,Calls Tryz.prog 200 #[.complex .f64 (fl n) (fl m)] w fun e w'=>e=.returned (.bool true) /\ w'=w:=by
  intro w
  go_enter Tryz.func200,Tryz.ntmps200
  go_wp2_with (go_at_call 111;refine (c1 w).mono ?_;rintro e w' ⟨rfl,rfl⟩)
  go_ret
  exact ⟨rfl,rfl⟩
 have hp:∀ w,Calls Tryz.prog 171 #[.complex .f64 (fl n) (fl m),.bool true] w fun e w'=>e=.returned (.tuple #[.complex .f64 (fl n) (fl m),.int .i64 0]) /\ w'=w:=by
  intro w
  go_enter Tryz.func171,Tryz.ntmps171
  go_wp2_with (go_at_call 200;refine (hi w).mono ?_;rintro e w' ⟨rfl,rfl⟩)
  go_ret2
  exact ⟨rfl,rfl⟩
 obtain ⟨h0,h1⟩:=h
 obtain ⟨k0,k1⟩:=k
 go_enter Tryz.func135,Tryz.ntmps135
 go_wp2_with (first | (refine wpList_cplx rfl _ _ _ _ rfl (fl n) (fl m) rfl rfl ?_) | go_at_call 171;refine (hp w).mono ?_;rintro e w' ⟨rfl,rfl⟩)
 go_ret2
 exact ⟨rfl,rfl⟩
end Go.Proofs.YtgfmfgombmpodaaGreatDoor
namespace Go.Proofs.YtgfmfgombmpodaaGreatDoor
open Go.RowKit Pv Vc
set_option linter.unusedVariables false
def isCnt (n:Int):Bool:=decide (0<=n)&&decide (n<=1125899906842624)
theorem cnt_of {n:Int} (h:isCnt n=true):Cnt n:=by
 unfold isCnt at h
 rw [Bool.and_eq_true,decide_eq_true_eq,decide_eq_true_eq] at h
 exact h
noncomputable def userG (x:RSt) (a:List Int) (sa di:List Int×Bool) (n up dn:Int×Bool):Option (RSt×Int):=
 cond (sa.2&&(di.2&&(n.2&&(up.2&&dn.2)))) (cond (Nat.beq x.us.length 16) (some (x,7)) (cond (List.isEmpty sa.1||(List.isEmpty di.1 || !(isCnt up.1&&isCnt dn.1))) none
  (some ({ x with us:=x.us++[(a,(sa.1,di.1),n.1,(fl up.1,fl dn.1),[])] },0)))) (some (x,2))
noncomputable def userP (x:RSt):List (List Int)->Option (RSt×Int)
  | [a, b, c, d, e, f] => (F_conf_named a).bind fun q => cond q (cond (decide (0 <= usAt x.us a)) (some (x, 2)) (
      (F_conf_bytesOf b 1 32).bind fun sa=>(F_conf_bytesOf c 32 32).bind fun di=>(F_conf_number d 1 1000).bind fun n=>(F_conf_number e 0 1125899906842624).bind fun up=>(F_conf_number f 0 1125899906842624).bind fun dn=>userG x a sa di n up dn)) (some (x,2))
  | _=>some (x,2)
theorem add_pos (a:Addr) {j:Nat} (hj:j≠0):a.add j=⟨a.block,a.off+j,none⟩:=by
 unfold Addr.add
 rw [if_neg hj]
theorem add_0 (a:Addr):a.add 0=a:=by unfold Addr.add;simp
theorem cell_b {w w':World} {a:Addr} {u:Value} (h:w.cell? a=some u) (hb:Below w.heap.size w w'):w'.cell? a=some u:=(hb.cell (cell_lt h)).trans h
def userZ:Value:=.agg #[.string ⟨#[]⟩,.slice none 0 0,.slice none 0 0,.int .i64 0,.complex .f64 0 0,.slice none 0 0]
theorem infoUs:(Tryz.prog.info? 63).map (fun i=>(i.zero,i.size,i.bytes))=some (some userZ,6,112):=by kernel_rfl
theorem row_slice {lo:Nat} {w:World} {role:Nat->Role} {ro:Role} {E:TypeId} {e:Ty} {l:List e.D} {v:Value} (h:RowAt lo w role ro E e l v):∃ a n c,v=.slice a n c:=by
 obtain ⟨xs,h1,_⟩:=h
 rcases h1.2 with ⟨rfl,_⟩ | ⟨g,cap,cur,rfl,_⟩
 ·exact ⟨_,_,_,rfl⟩
 ·exact ⟨_,_,_,rfl⟩
structure UsrAns (s0 s1 s2 s3 s4 s5:ByteArray) (sa di:List Int×Bool) (n up dn:Int×Bool):Prop where
 h0:F_conf_named (bytesL s0)=some true
 h1:F_conf_bytesOf (bytesL s1) 1 32=some sa
 h2:F_conf_bytesOf (bytesL s2) 32 32=some di
 h3:F_conf_number (bytesL s3) 1 1000=some n
 h4:F_conf_number (bytesL s4) 0 1125899906842624=some up
 h5:F_conf_number (bytesL s5) 0 1125899906842624=some dn
theorem nm_calls {s0:ByteArray} {q0:Bool} (hq0:F_conf_named (bytesL s0)=some q0) (w:World):Calls Tryz.prog 132 #[.string s0] w fun e w'=>e=.returned (.bool q0) /\ Below w.heap.size w w':=by
 have h1:=nmd_walk s0 w
 have h2:some (!(List.isEmpty (bytesL s0))&&Nat.ble (bytesL s0).length 64&&(bytesL s0).all okc)=some q0:=hq0
 injection h2 with h2
 rw [h2] at h1
 exact h1
set_option maxHeartbeats 8000000 in
set_option maxRecDepth 1000000 in
theorem user_bad {lo:Nat} {w:World} {R M:Nat} {x:RSt} (hlo:lo<=w.heap.size) {ad:Addr} {c:Nat} {s0:ByteArray} (c0:w.cell? ad=some (.string s0)) (hq0:F_conf_named (bytesL s0)=some false) :
  Calls Tryz.prog 96 #[.pointer (some ⟨R,0,none⟩),.slice (some ad) 6 c] w fun e w'=>RdPost lo R M x 2 e w w':=by
 have hnm:=nm_calls hq0
 have HL:Aside (lo<=w.heap.size):=hlo
 clear hq0 hlo
 go_enter Tryz.func96,Tryz.ntmps96
 go_wp2_with (go_at_call 132;refine (hnm _).mono ?_;rintro e w1 ⟨rfl,hb1⟩)
 go_ret
 exact ⟨rfl,hb1.mono HL.out,fun e=>by cases e⟩
set_option maxHeartbeats 8000000 in
set_option maxRecDepth 1000000 in
theorem user_twice {lo:Nat} {w:World} {R M:Nat} {v:Value} {role:Nat->Role} {x:RSt} (h:RdAt lo w R M v role x) (hlo:lo<=w.heap.size) (few:x.us.length<=16) {ad:Addr} {c:Nat} {s0:ByteArray} (c0:w.cell? ad=some (.string s0)) (hq0:F_conf_named (bytesL s0)=some true) (hat:0<=usAt x.us (bytesL s0)) :
  Calls Tryz.prog 96 #[.pointer (some ⟨R,0,none⟩),.slice (some ad) 6 c] w fun e w'=>RdPost lo R M x 2 e w w':=by
 have hnm:=nm_calls hq0
 have HL:Aside (lo<=w.heap.size /\ x.us.length<=16 /\ RdAt lo w R M v role x):=⟨hlo,few,h⟩
 clear hq0 hlo few h
 go_enter Tryz.func96,Tryz.ntmps96
 go_wp2_with (first | (go_at_call 132;refine (hnm _).mono ?_;rintro e w1 ⟨rfl,hb1⟩;have c01:=cell_b c0 hb1) | (go_at_call 133;refine (at_walk (HL.out.2.2.below hb1) HL.out.2.1 s0).mono ?_;rintro e w2 ⟨rfl,hb2⟩))
 go_ret
 exact ⟨rfl,(hb1.trans (hb2.mono hb1.size)).mono HL.out.1,fun e=>by cases e⟩
set_option maxHeartbeats 16000000 in
set_option maxRecDepth 1000000 in
theorem user_six {T:Tab} (hf:Facts T) {lo:Nat} {w:World} {R M:Nat} {v:Value} {role:Nat->Role} {x:RSt} (h:RdAt lo w R M v role x) (hT:TabAt T w) (hlo:lo<=w.heap.size) (few:x.us.length<=16) {ad:Addr} {c:Nat} {s0 s1 s2 s3 s4 s5:ByteArray} (c0:w.cell? ad=some (.string s0)) (c1:w.cell? ⟨ad.block,ad.off+1,none⟩=some (.string s1)) (c2:w.cell? ⟨ad.block,ad.off+2,none⟩=some (.string s2)) (c3:w.cell? ⟨ad.block,ad.off+3,none⟩=some (.string s3)) (c4:w.cell? ⟨ad.block,ad.off+4,none⟩=some (.string s4)) (c5:w.cell? ⟨ad.block,ad.off+5,none⟩=some (.string s5))
    (z0:s0.size<=maxLen) (z1:s1.size<=maxLen) (z2:s2.size<=maxLen) (z3:s3.size<=maxLen) (z4:s4.size<=maxLen) (z5:s5.size<=maxLen) (hat:usAt x.us (bytesL s0) < 0)
    {sa di:List Int} {n up dn:Int} {b1 b2 b3 b4 b5:Bool} (hA:UsrAns s0 s1 s2 s3 s4 s5 (sa,b1) (di,b2) (n,b3) (up,b4) (dn,b5)) {x':RSt} {e':Int} (hF:userG x (bytesL s0) (sa,b1) (di,b2) (n,b3) (up,b4) (dn,b5)=some (x',e')) :
    Calls Tryz.prog 96 #[.pointer (some ⟨R,0,none⟩),.slice (some ad) 6 c] w fun e w'=>RdPost lo R M x' e' e w w':=by
  have hnm:=nm_calls hA.h0
  have HL:Aside (lo<=w.heap.size /\ x.us.length<=16 /\ RdAt lo w R M v role x):=⟨hlo,few,h⟩
  have HLN:Aside (x.us.length<=16):=few
  have HF:Aside (userG x (bytesL s0) (sa,b1) (di,b2) (n,b3) (up,b4) (dn,b5)=some (x',e')):=hF
  have HT:Aside (TabAt T w):=hT
  have HA:Aside (UsrAns s0 s1 s2 s3 s4 s5 (sa,b1) (di,b2) (n,b3) (up,b4) (dn,b5)):=hA
  clear hF hT hlo few h hA
  cases hc:(b1&&(b2&&(b3&&(b4&&b5)))) with
  | false=>
    have hx:some (x,(2:Int))=some (x',e'):=by
      rw [<-HF.out]
      unfold userG
      dsimp only
      rw [hc];rfl
    injection hx with hx
    obtain ⟨rfl,rfl⟩:=Prod.mk.inj hx
    clear HF
    go_enter Tryz.func96,Tryz.ntmps96
    go_wp2_with (first
      | (go_at_call 132;refine (hnm _).mono ?_;rintro e w1 ⟨rfl,hb1⟩;have c01:=cell_b c0 hb1)
      | (go_at_call 133;refine (at_walk (HL.out.2.2.below hb1) HLN.out s0).mono ?_;rintro e w2 ⟨rfl,hb2'⟩;have hb2:=hb1.trans (hb2'.mono hb1.size);clear hb2';have c12:=cell_b c1 hb2)
      | (go_at_call 134;((with_reducible refine (bytes_calls hf (HT.out.below hb2) z1 (by decide) (by decide) HA.out.h1).mono ?_);rintro e w3 ⟨vs,rfl,hvs,hb3'⟩;have hb3:=hb2.trans (hb3'.mono hb2.size);have c23:=cell_b c2 hb3;have HVS:Aside (w.heap.size<=w2.heap.size /\ _ /\ _):=⟨hb2.size,hvs,hb3'⟩;clear hvs hb3'))
      | (go_at_call 134;((with_reducible refine (bytes_calls hf (HT.out.below hb3) z2 (by decide) (by decide) HA.out.h2).mono ?_);rintro e w4 ⟨vd,rfl,hvd,hb4'⟩;have hb4:=hb3.trans (hb4'.mono hb3.size);have c34:=cell_b c3 hb4;have HVD:Aside (w.heap.size<=w3.heap.size /\ _ /\ _):=⟨hb3.size,hvd,hb4'⟩;clear hvd hb4'))
      | (go_at_call 131;((with_reducible refine (number_calls hf (HT.out.below hb4) z3 (by decide) (by decide) HA.out.h3).mono ?_);rintro e w5 ⟨rfl,hwn,hb5'⟩;have hb5:=hb4.trans (hb5'.mono hb4.size);have c45:=cell_b c4 hb5;have HWN:Aside (_ /\ _):=⟨hwn,hb5'⟩;clear hwn hb5'))
      | (go_at_call 131;((with_reducible refine (number_calls hf (HT.out.below hb5) z4 (by decide) (by decide) HA.out.h4).mono ?_);rintro e w6 ⟨rfl,_,hb6'⟩;have hb6:=hb5.trans (hb6'.mono hb5.size);have c56:=cell_b c5 hb6;have HW6:Aside _:=hb6';clear hb6'))
      | (go_at_call 131;((with_reducible refine (number_calls hf (HT.out.below hb6) z5 (by decide) (by decide) HA.out.h5).mono ?_);rintro e w7 ⟨rfl,_,hb7'⟩;have hb7:=hb6.trans (hb7'.mono hb6.size);have HW7:Aside _:=hb7';clear hb7')))
    all_goals first
      | exact absurd hc (by decide)
      | (exfalso;simp_all;done)
      | (go_ret
         exact ⟨rfl,hb7.mono HL.out.1,fun e=>by cases e⟩)
  | true=>
    simp only [Bool.and_eq_true] at hc
    obtain ⟨rfl,rfl,rfl,rfl,rfl⟩:=hc
    obtain ⟨xs,u1,u2,u3⟩:=HL.out.2.2.hU
    obtain ⟨va,vc,rfl⟩:∃ va vc,v=.slice va x.us.length vc:=by
      rcases u1.2 with ⟨rfl,hn0⟩ | ⟨g,cap,cur,rfl,_⟩
      · exact ⟨none,0,by rw [hn0]⟩
      · exact ⟨_,_,rfl⟩
    obtain ⟨m,hm⟩:∃ m,x.us.length=m:=⟨_,rfl⟩
    rw [hm] at HL
    have HM:Aside (x.us.length=m):=hm
    clear u1 u2 u3 xs
    by_cases h16:m=16
    · have hx : some (x, (7 : Int)) = some (x', e') := by
        rw [<-HF.out]
        unfold userG
        dsimp only
        rw [hm,h16];rfl
      injection hx with hx
      obtain ⟨rfl,rfl⟩:=Prod.mk.inj hx
      clear HF hm
      go_enter Tryz.func96,Tryz.ntmps96
      go_wp2_with (first
        | (go_at_call 132;refine (hnm _).mono ?_;rintro e w1 ⟨rfl,hb1⟩;have c01:=cell_b c0 hb1)
        | (go_at_call 133;refine (at_walk (HL.out.2.2.below hb1) HLN.out s0).mono ?_;rintro e w2 ⟨rfl,hb2'⟩;have hb2:=hb1.trans (hb2'.mono hb1.size);clear hb2';have c12:=cell_b c1 hb2)
        | (go_at_call 134;((with_reducible refine (bytes_calls hf (HT.out.below hb2) z1 (by decide) (by decide) HA.out.h1).mono ?_);rintro e w3 ⟨vs,rfl,hvs,hb3'⟩;have hb3:=hb2.trans (hb3'.mono hb2.size);have c23:=cell_b c2 hb3;have HVS:Aside (w.heap.size<=w2.heap.size /\ _ /\ _):=⟨hb2.size,hvs,hb3'⟩;clear hvs hb3'))
        | (go_at_call 134;((with_reducible refine (bytes_calls hf (HT.out.below hb3) z2 (by decide) (by decide) HA.out.h2).mono ?_);rintro e w4 ⟨vd,rfl,hvd,hb4'⟩;have hb4:=hb3.trans (hb4'.mono hb3.size);have c34:=cell_b c3 hb4;have HVD:Aside (w.heap.size<=w3.heap.size /\ _ /\ _):=⟨hb3.size,hvd,hb4'⟩;clear hvd hb4'))
        | (go_at_call 131;((with_reducible refine (number_calls hf (HT.out.below hb4) z3 (by decide) (by decide) HA.out.h3).mono ?_);rintro e w5 ⟨rfl,hwn,hb5'⟩;have hb5:=hb4.trans (hb5'.mono hb4.size);have c45:=cell_b c4 hb5;have HWN:Aside (_ /\ _):=⟨hwn,hb5'⟩;clear hwn hb5'))
        | (go_at_call 131;((with_reducible refine (number_calls hf (HT.out.below hb5) z4 (by decide) (by decide) HA.out.h4).mono ?_);rintro e w6 ⟨rfl,_,hb6'⟩;have hb6:=hb5.trans (hb6'.mono hb5.size);have c56:=cell_b c5 hb6;have HW6:Aside _:=hb6';clear hb6'))
        | (go_at_call 131;((with_reducible refine (number_calls hf (HT.out.below hb6) z5 (by decide) (by decide) HA.out.h5).mono ?_);rintro e w7 ⟨rfl,_,hb7'⟩;have hb7:=hb6.trans (hb7'.mono hb6.size);have HW7:Aside _:=hb7';clear hb7';have HRR:Aside (RdAt lo w7 R M (.slice va m vc) role x):=HL.out.2.2.below hb7;obtain ⟨_,_,_,_,_,_,_,c77,_,fz7⟩:=cells9 HRR.out.hR))
        | (go_at_call 135;refine (pair_walk hcu hcd _).mono ?_;rintro e w8 ⟨rfl,hw8⟩;rw [hw8]))
      go_ret
      exact ⟨rfl,hb7.mono HL.out.1,fun e=>by cases e⟩
    · have hx : cond (List.isEmpty sa || (List.isEmpty di || !(isCnt up && isCnt dn))) none (some (({ x with us := x.us ++ [(bytesL s0, (sa, di), n, (fl up, fl dn), [])] } : RSt), (0 : Int))) = some (x', e') := by
        rw [<-HF.out]
        unfold userG
        dsimp only
        rw [hm,show Nat.beq m 16=false from Bool.eq_false_iff.2 fun h=>h16 (Nat.eq_of_beq_eq_true h)];rfl
      clear HF hm
      cases hk:(List.isEmpty sa||(List.isEmpty di || !(isCnt up&&isCnt dn))) with
      | true=>rw [hk] at hx;cases hx
      | false=>
      rw [hk] at hx
      injection hx with hx
      obtain ⟨rfl,rfl⟩:=Prod.mk.inj hx
      rw [Bool.or_eq_false_iff,Bool.or_eq_false_iff,Bool.not_eq_false',Bool.and_eq_true] at hk
      obtain ⟨hsa,hdi,hcu,hcd⟩:=hk
      have hcu:=cnt_of hcu
      have hcd:=cnt_of hcd
      have HS:Aside (List.isEmpty sa=false /\ List.isEmpty di=false):=⟨hsa,hdi⟩
      clear hsa hdi
      go_enter Tryz.func96,Tryz.ntmps96
      go_wp2_with (first
        | (go_at_call 132;refine (hnm _).mono ?_;rintro e w1 ⟨rfl,hb1⟩;have c01:=cell_b c0 hb1)
        | (go_at_call 133;refine (at_walk (HL.out.2.2.below hb1) HLN.out s0).mono ?_;rintro e w2 ⟨rfl,hb2'⟩;have hb2:=hb1.trans (hb2'.mono hb1.size);clear hb2';have c12:=cell_b c1 hb2)
        | (go_at_call 134;((with_reducible refine (bytes_calls hf (HT.out.below hb2) z1 (by decide) (by decide) HA.out.h1).mono ?_);rintro e w3 ⟨vs,rfl,hvs,hb3'⟩;have hb3:=hb2.trans (hb3'.mono hb2.size);have c23:=cell_b c2 hb3;have HVS:Aside (w.heap.size<=w2.heap.size /\ _ /\ _):=⟨hb2.size,hvs,hb3'⟩;clear hvs hb3'))
        | (go_at_call 134;((with_reducible refine (bytes_calls hf (HT.out.below hb3) z2 (by decide) (by decide) HA.out.h2).mono ?_);rintro e w4 ⟨vd,rfl,hvd,hb4'⟩;have hb4:=hb3.trans (hb4'.mono hb3.size);have c34:=cell_b c3 hb4;have HVD:Aside (w.heap.size<=w3.heap.size /\ _ /\ _):=⟨hb3.size,hvd,hb4'⟩;clear hvd hb4'))
        | (go_at_call 131;((with_reducible refine (number_calls hf (HT.out.below hb4) z3 (by decide) (by decide) HA.out.h3).mono ?_);rintro e w5 ⟨rfl,hwn,hb5'⟩;have hb5:=hb4.trans (hb5'.mono hb4.size);have c45:=cell_b c4 hb5;have HWN:Aside (_ /\ _):=⟨hwn,hb5'⟩;clear hwn hb5'))
        | (go_at_call 131;((with_reducible refine (number_calls hf (HT.out.below hb5) z4 (by decide) (by decide) HA.out.h4).mono ?_);rintro e w6 ⟨rfl,_,hb6'⟩;have hb6:=hb5.trans (hb6'.mono hb5.size);have c56:=cell_b c5 hb6;have HW6:Aside _:=hb6';clear hb6'))
        | (go_at_call 131;((with_reducible refine (number_calls hf (HT.out.below hb6) z5 (by decide) (by decide) HA.out.h5).mono ?_);rintro e w7 ⟨rfl,_,hb7'⟩;have hb7:=hb6.trans (hb7'.mono hb6.size);have HW7:Aside _:=hb7';clear hb7';have HRR:Aside (RdAt lo w7 R M (.slice va m vc) role x):=HL.out.2.2.below hb7;obtain ⟨_,_,_,_,_,_,_,c77,_,fz7⟩:=cells9 HRR.out.hR))
        | (go_at_call 135;refine (pair_walk hcu hcd _).mono ?_;rintro e w8 ⟨rfl,hw8⟩;rw [hw8]))
      obtain ⟨role1,HR1,hrs,hrd⟩:=new_user HRR.out (fun b hb=>(HL.out.2.2.lt b hb).2) HL.out.1 HVS.out.1 (HVS.out.2.1 fun e=>by have:=HS.out.1;rw [e] at this;cases this) (((HVD.out.2.2.trans (HWN.out.2.mono HVD.out.2.2.size)).trans (HW6.out.mono (Nat.le_trans HVD.out.2.2.size HWN.out.2.size))).trans (HW7.out.mono (Nat.le_trans (Nat.le_trans HVD.out.2.2.size HWN.out.2.size) HW6.out.size))) HVD.out.1 (HVD.out.2.1 fun e=>by have:=HS.out.2;rw [e] at this;cases this) ((HWN.out.2.trans (HW6.out.mono HWN.out.2.size)).trans (HW7.out.mono (Nat.le_trans HWN.out.2.size HW6.out.size)))
      obtain ⟨ps,pn,pc,rfl⟩:=row_slice hrs
      obtain ⟨qs,qn,qc,rfl⟩:=row_slice hrd
      obtain ⟨xs,u1,u2,u3⟩:=HR1.hU
      rw [HM.out] at u1
      have HU:Aside (_ /\ _ /\ _ /\ _ /\ _ /\ _):=⟨u1,u2,u3,HR1,hrs,hrd⟩
      clear u1 u2 u3 HR1 hrs hrd
      obtain ⟨i0,hi,hz0,hz1,hz2⟩:=info_parts infoUs
      have c07:=cell_b c0 hb7
      have hRlt:R < w7.heap.size:=(HRR.out.lt R (by rw [HRR.out.rR];intro e;cases e)).2
      have HI:Aside (_ /\ _ /\ _ /\ _):=⟨hi,hz0,hz1,hz2⟩
      clear hi hz0 hz1 hz2
      have hne:va=none \/ True:=.inr trivial
      clear hne
      go_region_law (refine step_append_own_at rfl (.tmp 108) (.tmp 118) 49 rfl lo 63 i0 userZ 6 _ Tryz.underlying49 HI.out.1 HI.out.2.1 HI.out.2.2.1 HI.out.2.2.2 rfl (by decide) (.slice va m vc) m xs (by simp [Act.eval]) (owns_keep HU.out.1 fun b hb=>heap_alloc_old _ _ (HU.out.1.lt b hb).2) ⟨w7.heap.size,0,none⟩ 1 1 [.string s0,.slice ps pn pc,.slice qs qn qc,.int .i64 n,.complex .f64 (fl up) (fl dn),.slice none 0 0] (by simp [Act.eval]) rfl (cells_new _ _ _) (fun u hu=>List.all_eq_true.1 (show List.all [Value.string s0,.slice ps pn pc,.slice qs qn qc,.int .i64 n,.complex .f64 (fl up) (fl dn),.slice none 0 0] Value.oneCell'=true from rfl) u hu) (by have:=HL.out.2.1;unfold maxLen;omega) (by have:=HL.out.2.1;omega) (Nat.le_trans HL.out.1 (Nat.le_trans hb7.size (by simp))) ?_;intro v' wz hown' hgrow hat';obtain ⟨va',vc',rfl⟩:=own_slice hown';obtain ⟨c7z,f7z⟩:=keep_R HU.out.2.2.2.1 HU.out.2.1 hgrow (fun b hb=>heap_alloc_old _ _ hb) (by simp))
      all_goals
        go_wp2
        go_ret
        obtain ⟨k1,k2,k3,k4,k5,k6⟩:=HU.out
        exact user_end HM.out HL.out.1 hb7 k4 k1 k2 k3 k5 k6 z0 HWN.out.1 hgrow hown' hat' (fun b hb=>heap_alloc_old _ _ hb) (by simp) ⟨rfl,rfl,rfl⟩ rfl ⟨rfl,rfl,rfl⟩
set_option maxHeartbeats 8000000 in
set_option maxRecDepth 1000000 in
theorem user_walk {T:Tab} (hf:Facts T) {lo:Nat} {w:World} {R M:Nat} {v:Value} {role:Nat->Role} {x:RSt} (h:RdAt lo w R M v role x) (hT:TabAt T w) (hlo:lo<=w.heap.size) (few:x.us.length<=16) {a:Option Addr} {n c:Nat} {ws:List ByteArray} (hn:ws.length=n) (hws:∀ i s,ws[i]? = some s -> ∃ ad,a=some ad /\ w.cell? (ad.add i)=some (.string s) /\ s.size<=maxLen) {x':RSt} {e':Int} (hF:userP x (ws.map bytesL)=some (x',e')) :
    Calls Tryz.prog 96 #[.pointer (some ⟨R,0,none⟩),.slice a n c] w fun e w'=>RdPost lo R M x' e' e w w':=by
  by_cases h6:n=6
  · subst h6
    match ws,hn,hws,hF with
    | [s0,s1,s2,s3,s4,s5],_,hws,hF=>
    obtain ⟨ad,rfl,c0,z0⟩:=hws 0 s0 rfl
    obtain ⟨_,e1,c1,z1⟩:=hws 1 s1 rfl
    injection e1 with e1
    subst e1
    obtain ⟨_,e1,c2,z2⟩:=hws 2 s2 rfl
    injection e1 with e1
    subst e1
    obtain ⟨_,e1,c3,z3⟩:=hws 3 s3 rfl
    injection e1 with e1
    subst e1
    obtain ⟨_,e1,c4,z4⟩:=hws 4 s4 rfl
    injection e1 with e1
    subst e1
    obtain ⟨_,e1,c5,z5⟩:=hws 5 s5 rfl
    injection e1 with e1
    subst e1
    have c0:w.cell? ad=some (.string s0):=by rw [add_0] at c0;exact c0
    rw [add_pos _ (by decide)] at c1 c2 c3 c4 c5
    have hF:(F_conf_named (bytesL s0)).bind (fun q=>cond q (cond (decide (0<=usAt x.us (bytesL s0))) (some (x,2)) ((F_conf_bytesOf (bytesL s1) 1 32).bind fun sa=>(F_conf_bytesOf (bytesL s2) 32 32).bind fun di=>(F_conf_number (bytesL s3) 1 1000).bind fun n=>(F_conf_number (bytesL s4) 0 1125899906842624).bind fun up=>(F_conf_number (bytesL s5) 0 1125899906842624).bind fun dn=>userG x (bytesL s0) sa di n up dn)) (some (x,2)))=some (x',e'):=hF
    cases hq0:F_conf_named (bytesL s0) with
    | none=>rw [hq0] at hF;cases hF
    | some q0=>
    rw [hq0,Option.bind_some] at hF
    cases q0 with
    | false=>
      injection hF with hF
      obtain ⟨rfl,rfl⟩:=Prod.mk.inj hF
      exact user_bad hlo c0 hq0
    | true=>
      rw [cond_true] at hF
      cases hat:decide (0<=usAt x.us (bytesL s0)) with
      | true=>
        rw [hat] at hF
        injection hF with hF
        obtain ⟨rfl,rfl⟩:=Prod.mk.inj hF
        exact user_twice h hlo few c0 hq0 (of_decide_eq_true hat)
      | false=>
        rw [hat,cond_false] at hF
        have hat:=of_decide_eq_false hat
        obtain ⟨sa,h1,hF⟩:=Option.bind_eq_some_iff.1 hF
        obtain ⟨di,h2,hF⟩:=Option.bind_eq_some_iff.1 hF
        obtain ⟨n,h3,hF⟩:=Option.bind_eq_some_iff.1 hF
        obtain ⟨up,h4,hF⟩:=Option.bind_eq_some_iff.1 hF
        obtain ⟨dn,h5,hF⟩:=Option.bind_eq_some_iff.1 hF
        exact user_six hf h hT hlo few c0 c1 c2 c3 c4 c5 z0 z1 z2 z3 z4 z5 (by omega) ⟨hq0,h1,h2,h3,h4,h5⟩ hF
  · have hF : some (x, (2 : Int)) = some (x', e') := by
      rw [<-hF]
      match ws,hn with
      | [],_=>rfl
      | [_],_=>rfl
      | [_,_],_=>rfl
      | [_,_,_],_=>rfl
      | [_,_,_,_],_=>rfl
      | [_,_,_,_,_],_=>rfl
      | [_,_,_,_,_,_],hn=>exact absurd hn.symm h6
      | _::_::_::_::_::_::_::_,_=>rfl
    injection hF with hF
    obtain ⟨rfl,rfl⟩:=Prod.mk.inj hF
    clear hws hn
    go_enter Tryz.func96,Tryz.ntmps96
    go_wp2
    go_ret
    exact ⟨rfl,Below.refl _ _,fun e=>by cases e⟩
end Go.Proofs.YtgfmfgombmpodaaGreatDoor
namespace Go.Proofs.YtgfmfgombmpodaaGreatDoor
open Go.RowKit Pv
set_option linter.unusedVariables false
abbrev PatD:=Bool×Int×List Int×List Int×Int×Int×Int×Bool
def ruleG (x:RSt) (a:List Int) (allow:Bool) (p:PatD) (sp:Int×Int×Bool):Option (RSt×Int):=
 cond (p.2.2.2.2.2.2.2&&sp.2.2) (match x.us[(usAt x.us a).toNat]? with
  | none=>none
  | some u=>cond (Nat.beq u.2.2.2.2.length 64) (some (x,7)) (cond (Nat.ble u.2.2.2.2.length 64) (some ({ x with us:=x.us.set (usAt x.us a).toNat (u.1,u.2.1,u.2.2.1,u.2.2.2.1,u.2.2.2.2++[(allow,p.2.1,p.2.2.1,(p.2.2.2.1,p.2.2.2.2.1),sp.1,sp.2.1)]) },0)) none)) (some (x,2))
noncomputable def ruleP (x:RSt) (allow:Bool):List (List Int)->Option (RSt×Int)
 | [a,b,c]=>cond (decide (usAt x.us a < 0)) (some (x,2)) ((F_conf_pattern b).bind fun p=>(F_conf_span c).bind fun sp=>ruleG x a allow p sp)
 | _=>some (x,2)
theorem usAt_in:∀ (us:List UserD) (s:List Int),-1<=usAt us s /\ usAt us s < us.length
 | [],s=>⟨Int.le_refl _,by show (-1:Int) < 0;decide⟩
 | u::us,s=>by
  have ih:=usAt_in us s
  rw [List.length_cons]
  show -1<=cond (u.1==s) 0 (cond (decide (usAt us s = -1)) (-1) (usAt us s+1)) /\ cond (u.1==s) 0 (cond (decide (usAt us s = -1)) (-1) (usAt us s+1)) < _
  cases u.1==s
  ·cases hq:decide (usAt us s = -1)
   ·show -1<=usAt us s+1 /\ usAt us s+1 < _
    omega
   ·show -1<=(-1:Int) /\ (-1:Int) < _
    omega
  ·show -1<=(0:Int) /\ (0:Int) < _
   omega
theorem rl_add_pos (a:Addr) {j:Nat} (hj:j≠0):a.add j=⟨a.block,a.off+j,none⟩:=by
 unfold Addr.add
 rw [if_neg hj]
theorem rl_add_0 (a:Addr):a.add 0=a:=by unfold Addr.add;simp
theorem rl_cell {w w':World} {a:Addr} {u:Value} (h:w.cell? a=some u) (hb:Below w.heap.size w w'):w'.cell? a=some u:=(hb.cell (cell_lt h)).trans h
theorem rule_cells {w:World} {C:Com} {r:RuleD} {cs:List Value} (h:RepD w C ruleT r cs):∃ (s3 s4:ByteArray),cs=[.bool r.1,.int .i64 r.2.1,.string s3,.string s4,.int .i64 r.2.2.2.1.2,.int .i64 r.2.2.2.2.1,.int .i64 r.2.2.2.2.2] /\ bytesL s3=r.2.2.1 /\ bytesL s4=r.2.2.2.1.1 /\ s3.size<=maxLen /\ s4.size<=maxLen /\ (Lit.int .i64 r.2.1).wf=true /\ (Lit.int .i64 r.2.2.2.1.2).wf=true:=by
 obtain ⟨d1,e1,rfl,h1,d2,e2,rfl,⟨rfl,h2⟩,d3,e3,rfl,⟨s3,rfl,h3,h3'⟩,d4,e4,rfl,⟨d5,e5,rfl,⟨s4,rfl,h4,h4'⟩,rfl,h5⟩,d6,e6,rfl,⟨rfl,_⟩,rfl,_⟩:=h
 have h1:d1=[.bool r.1]:=h1
 subst h1
 exact ⟨s3,s4,rfl,h3,h4,h3',h4',h2,h5⟩
theorem rule_rep {w:World} {C:Com} {a:Bool} {k n f t:Int} {s3 s4:ByteArray} (h3:s3.size<=maxLen) (h4:s4.size<=maxLen) (hk:(Lit.int .i64 k).wf=true) (hn:(Lit.int .i64 n).wf=true) (hf:(Lit.int .i64 f).wf=true) (ht:(Lit.int .i64 t).wf=true) :
  RepD w C ruleT ((a,k,bytesL s3,(bytesL s4,n),f,t):RuleD) [.bool a,.int .i64 k,.string s3,.string s4,.int .i64 n,.int .i64 f,.int .i64 t]:=
 ⟨[_],_,rfl,rfl,[_],_,rfl,⟨rfl,hk⟩,[_],_,rfl,⟨s3,rfl,rfl,h3⟩,[_,_],_,rfl,⟨[_],[_],rfl,⟨s4,rfl,rfl,h4⟩,rfl,hn⟩,[_],[_],rfl,⟨rfl,hf⟩,rfl,ht⟩
theorem cells7 {w:World} {b:Nat} {v0 v1 v2 v3 v4 v5 v6:Value} {T:TypeId} (h:w.heap[b]? = some (.cells #[v0,v1,v2,v3,v4,v5,v6] T (0,0))):w.cell? ⟨b,0,none⟩=some v0 /\ w.cell? ⟨b,1,none⟩=some v1 /\ w.cell? ⟨b,2,none⟩=some v2 /\ w.cell? ⟨b,3,none⟩=some v3 /\ w.cell? ⟨b,4,none⟩=some v4 /\ w.cell? ⟨b,5,none⟩=some v5 /\ w.cell? ⟨b,6,none⟩=some v6 /\ ∀ o,w.frozen? ⟨b,o,none⟩=false:=by
 refine ⟨?_,?_,?_,?_,?_,?_,?_,fun o=>?_⟩ <;> first | (rw [cell_at h];rfl) | simp [World.frozen?,h]
theorem rule_stored {w5 ws:World} {L:Nat} {v0 v1 v2 v3 v4 v5 v6 a f t:Value} {T:TypeId} (h:w5.heap[L]? = some (.cells #[v0,v1,v2,v3,v4,v5,v6] T (0,0))) (hws:((w5.setCell ⟨L,0,none⟩ a).setCell ⟨L,5,none⟩ f).setCell ⟨L,6,none⟩ t=ws) :
  ws.heap[L]? = some (.cells #[a,v1,v2,v3,v4,f,t] T (0,0)) /\ (∀ k,k≠L->ws.heap[k]? = w5.heap[k]?) /\ ws.heap.size=w5.heap.size /\ ws.os=w5.os /\ ws.tape=w5.tape /\ ws.output=w5.output:=by
 subst hws
 refine ⟨?_,fun k hk=>?_,by simp [World.setCell],rfl,rfl,rfl⟩
 ·rw [setCell_heap,if_pos rfl,setCell_heap,if_pos rfl,setCell_heap,if_pos rfl,h]
  rfl
 ·rw [setCell_heap,if_neg hk,setCell_heap,if_neg hk,setCell_heap,if_neg hk]
theorem rule_end {lo:Nat} {w W0 wz w':World} {R M U cap m i k:Nat} {role:Nat->Role} {x:RSt} {u:UserD} {r:RuleD} {news rs xs:List Value} {nm:ByteArray} {vs vd vr':Value} {ra:Option Addr} {rc:Nat} (hm:x.us.length=m) (hlo:lo<=w.heap.size) (h:RdAt lo w R M (.slice (some ⟨U,0,none⟩) m cap) role x)
    (hU:w.ownsRow lo 63 6 (.slice (some ⟨U,0,none⟩) x.us.length cap) x.us.length xs /\ (∀ i u,x.us[i]? = some u->UserAt lo w role i u ((xs.drop (i*6)).take 6)) /\ role U=.usr) (hu:x.us[i]? = some u) (hcs:(xs.drop (i*6)).take 6=[.string nm,vs,vd,.int .i64 u.2.2.1,.complex .f64 u.2.2.2.1.1 u.2.2.2.1.2,.slice ra u.2.2.2.2.length rc]) (hnm:bytesL nm=u.1) (hnmz:nm.size<=maxLen) (hwf:(Lit.int .i64 u.2.2.1).wf=true)
    (hvs:RowAt lo w role .flat 5 (.int .u8) u.2.1.1 vs) (hvd:RowAt lo w role .flat 5 (.int .u8) u.2.1.2 vd) (r1:w.ownsRow lo 68 ruleT.size (.slice ra u.2.2.2.2.length rc) u.2.2.2.2.length rs) (r2:∀ b,(Value.slice ra u.2.2.2.2.length rc).ownBlock=some b->role b=.row i) (r3:∀ (j:Nat) (y:ruleT.D),(show List ruleT.D from u.2.2.2.2)[j]? = some y->RepD w noC ruleT y ((rs.drop (j*ruleT.size)).take ruleT.size)) (hk:u.2.2.2.2.length=k)
    (hn7:news.length=7) (hnew:RepD w noC ruleT r news) (hg:W0.grownBy wz (Value.slice ra k rc).ownBlock) (hown:wz.ownsRow lo 68 7 vr' (k+1) (rs++news)) (hat:vr'.ownBlock=(Value.slice ra k rc).ownBlock \/ vr'.ownBlock=some W0.heap.size)
    (hW:∀ b,b < w.heap.size->W0.heap[b]? = w.heap[b]?) (hWs:w.heap.size<=W0.heap.size) (hWq:W0.os=w.os /\ W0.tape=w.tape /\ W0.output=w.output) (he:w'.heap=(wz.setCell ⟨U,i*6+5,none⟩ vr').heap) (hq:w'.os=wz.os /\ w'.tape=wz.tape /\ w'.output=wz.output) :
    RdPost lo R M { x with us:=x.us.set i (u.1,u.2.1,u.2.2.1,u.2.2.2.1,u.2.2.2.2++[r]) } 0 (.returned (.int .i64 0)) w w':=by
  subst hm
  subst hk
  obtain ⟨u1,u3,u2⟩:=hU
  have hk:∀ b,role b≠.no->W0.heap[b]? = w.heap[b]?:=fun b hb=>hW b (h.lt b hb).2
  have hk0:∀ b,role b=.flat->role b=.flat /\ W0.heap[b]? = w.heap[b]?:=fun b hb=>⟨hb,hk b (by rw [hb];intro e;cases e)⟩
  have hUlt:=h.lt U (by rw [u2];intro e;cases e)
  have hvU:(Value.slice ra u.2.2.2.2.length rc).ownBlock≠some U:=fun e=>by
    have:=r2 U e
    rw [u2] at this
    cases this
  obtain ⟨role', hr⟩ := put_rule (h.keep hk hWs) hu hn7 (repD_flat rfl hnew) (owns_keep u1 fun b hb => hk b (by
      have e:U=b:=by injection hb
      rw [<-e,u2];intro e;cases e)) u2 (fun j y hy=>(u3 j y hy).keep fun b hb=>⟨rfl,hk b (by rcases hb with hb | hb <;> (rw [hb];intro e;cases e))⟩) hcs hnm hnmz hwf (hvs.keep rfl (by intro e;cases e) hk0) (hvd.keep rfl (by intro e;cases e) hk0)
    (owns_keep r1 fun b hb=>hk b (by rw [r2 b hb];intro e;cases e)) r2 (fun j y hy=>repD_flat rfl (r3 j y hy)) hg hown hat
  refine ⟨rfl,⟨hq.1.trans (hg.os.trans hWq.1),hq.2.1.trans (hg.tape.trans hWq.2.1),hq.2.2.trans (hg.output.trans hWq.2.2),?_,fun b hb=>?_⟩,fun _=>⟨_,role',hr.keep (fun b _=>by rw [he]) (by rw [he];exact Nat.le_refl _)⟩⟩
  · rw [he]
    have h2:=hg.size
    have h3:(wz.setCell ⟨U,i*6+5,none⟩ vr').heap.size=wz.heap.size:=by simp [World.setCell]
    omega
  · rw [he,setCell_heap,if_neg (by show b≠U;omega),hg.block b (by omega) fun e=>?_,hW b (by omega)]
    have:=(h.lt b (by rw [r2 b e.symm];intro e;cases e)).1
    omega
set_option maxHeartbeats 8000000 in
set_option maxRecDepth 1000000 in
theorem rule_none {lo:Nat} {w:World} {R M:Nat} {v:Value} {role:Nat->Role} {x:RSt} (h:RdAt lo w R M v role x) (hlo:lo<=w.heap.size) (few:x.us.length<=16) {allow:Bool} {ad:Addr} {c:Nat} {s0:ByteArray} (c0:w.cell? ad=some (.string s0)) (hat:usAt x.us (bytesL s0) < 0) :
  Calls Tryz.prog 97 #[.pointer (some ⟨R,0,none⟩),.bool allow,.slice (some ad) 3 c] w fun e w'=>RdPost lo R M x 2 e w w':=by
 have HL:Aside (lo<=w.heap.size /\ x.us.length<=16 /\ RdAt lo w R M v role x):=⟨hlo,few,h⟩
 clear hlo few h
 go_enter Tryz.func97,Tryz.ntmps97
 go_wp2_with (go_at_call 133;refine (at_walk HL.out.2.2 HL.out.2.1 s0).mono ?_;rintro e w2 ⟨rfl,hb2⟩)
 go_ret
 exact ⟨rfl,hb2.mono HL.out.1,fun e=>by cases e⟩
set_option maxHeartbeats 16000000 in
set_option maxRecDepth 1000000 in
theorem rule_three {T:Tab} (hf:Facts T) {lo:Nat} {w:World} {R M:Nat} {v:Value} {role:Nat->Role} {x:RSt} (h:RdAt lo w R M v role x) (hT:TabAt T w) (hlo:lo<=w.heap.size) (few:x.us.length<=16) {allow:Bool} {ad:Addr} {c:Nat} {s0 s1 s2:ByteArray} (c0:w.cell? ad=some (.string s0)) (c1:w.cell? ⟨ad.block,ad.off+1,none⟩=some (.string s1)) (c2:w.cell? ⟨ad.block,ad.off+2,none⟩=some (.string s2))
    (z1:s1.size<=maxLen) (z2:s2.size<=maxLen) {i:Nat} (hi:usAt x.us (bytesL s0)=(i:Int)) {r:RuleD} {b1 b2:Bool} {pf pt:Int} (hp:F_conf_pattern (bytesL s1)=some (r.1,r.2.1,r.2.2.1,r.2.2.2.1.1,r.2.2.2.1.2,r.2.2.2.2.1,r.2.2.2.2.2,b1)) (hsp:F_conf_span (bytesL s2)=some (pf,pt,b2))
    {x':RSt} {e':Int} (hF:ruleG x (bytesL s0) allow (r.1,r.2.1,r.2.2.1,r.2.2.2.1.1,r.2.2.2.1.2,r.2.2.2.2.1,r.2.2.2.2.2,b1) (pf,pt,b2)=some (x',e')) :
    Calls Tryz.prog 97 #[.pointer (some ⟨R,0,none⟩),.bool allow,.slice (some ad) 3 c] w fun e w'=>RdPost lo R M x' e' e w w':=by
  have hin:=usAt_in x.us (bytesL s0)
  rw [hi] at hin
  have hil:i < x.us.length:=by omega
  obtain ⟨xs,u1,u2,u3⟩:=h.hU
  obtain ⟨U,cap,rfl⟩:∃ U cap,v=.slice (some ⟨U,0,none⟩) x.us.length cap:=by
    rcases u1.2 with ⟨rfl,hn0⟩ | ⟨g,cap,cur,rfl,_⟩
    · omega
    · exact ⟨_,_,rfl⟩
  obtain ⟨m,hm⟩:∃ m,x.us.length=m:=⟨_,rfl⟩
  have HLN:Aside (x.us.length<=16):=few
  have HP:Aside (F_conf_pattern (bytesL s1)=some (r.1,r.2.1,r.2.2.1,r.2.2.2.1.1,r.2.2.2.1.2,r.2.2.2.2.1,r.2.2.2.2.2,b1) /\ F_conf_span (bytesL s2)=some (pf,pt,b2)):=⟨hp,hsp⟩
  have HU:Aside (w.ownsRow lo 63 6 (.slice (some ⟨U,0,none⟩) x.us.length cap) x.us.length xs /\ (∀ i u,x.us[i]? = some u->UserAt lo w role i u ((xs.drop (i*6)).take 6)) /\ role U=.usr):=⟨u1,u3,u2 U rfl⟩
  have hatw:∀ {w':World},RdAt lo w' R M (.slice (some ⟨U,0,none⟩) m cap) role x->Calls Tryz.prog 133 #[.pointer (some ⟨R,0,none⟩),.string s0] w' fun e w''=>e=.returned (.int .i64 (i:Int)) /\ Below w'.heap.size w' w'':=fun hr=>by
    have:=at_walk hr HLN.out s0
    rw [hi] at this
    exact this
  have HF:Aside (ruleG x (bytesL s0) allow (r.1,r.2.1,r.2.2.1,r.2.2.2.1.1,r.2.2.2.1.2,r.2.2.2.2.1,r.2.2.2.2.2,b1) (pf,pt,b2)=some (x',e')):=hF
  have HI:Aside (usAt x.us (bytesL s0)=(i:Int)):=hi
  rw [hm] at h hil
  have hil':(i:Int) < (m:Int):=by omega
  have HM:Aside (x.us.length=m):=hm
  have HL:Aside (lo<=w.heap.size /\ RdAt lo w R M (.slice (some ⟨U,0,none⟩) m cap) role x):=⟨hlo,h⟩
  have HT:Aside (TabAt T w):=hT
  clear u1 u2 u3 hin hi few hF hm hp hsp hlo h hT
  cases hc:(b1&&b2) with
  | false=>
    have hx:some (x,(2:Int))=some (x',e'):=by
      rw [<-HF.out]
      unfold ruleG
      dsimp only
      rw [hc];rfl
    injection hx with hx
    obtain ⟨rfl,rfl⟩:=Prod.mk.inj hx
    clear HF
    go_enter Tryz.func97,Tryz.ntmps97
    go_wp2_with (first
      | (go_at_call 133;refine (hatw HL.out.2).mono ?_;rintro e w1 ⟨rfl,hb1⟩;have c11:=rl_cell c1 hb1)
      | (go_at_call 136;refine (pattern_calls hf (HT.out.below hb1) z1 HP.out.1).mono ?_;rintro e w2 ⟨cs,rfl,hcs,hb2'⟩;have hb2:=hb1.trans (hb2'.mono hb1.size);clear hb2';obtain ⟨s3,s4,rfl,k1,k2,k3,k4,k5,k6⟩:=rule_cells hcs;have HK:Aside (_ /\ _ /\ _ /\ _ /\ _ /\ _):=⟨k1,k2,k3,k4,k5,k6⟩;clear hcs k1 k2 k3 k4 k5 k6;have c22:=rl_cell c2 hb2;have hA2:ad.block < w2.heap.size:=show (⟨ad.block,ad.off+2,none⟩:Addr).block < _ from cell_lt c22)
      | (go_at_call 137;(refine (span_calls hf (HT.out.below (hb2.alloc hb2.size _)) z2 HP.out.2).mono ?_;rintro e w4 ⟨rfl,q1,q2,hb4'⟩;have hb4:Below w.heap.size w w4:=(hb2.alloc hb2.size _).trans (hb4'.mono (by simp;exact Nat.le_succ_of_le hb2.size));have HQ:Aside (_ /\ _):=⟨q1,q2⟩;have HB4:Aside (w4.heap[w2.heap.size]? = _):=(hb4'.block w2.heap.size (by simp)).trans (heap_alloc_new _ _);have HR4:Aside (RdAt lo w4 R M (.slice (some ⟨U,0,none⟩) m cap) role x):=HL.out.2.below hb4;clear q1 q2 hb4';obtain ⟨_,_,_,_,_,_,_,c74,_,fz4⟩:=cells9 HR4.out.hR;have c04:=rl_cell c0 hb4)))
    go_region_with (go_at_call 133;(refine (hatw (w':=w4.drew) (HR4.out.keep (fun b _=>rfl) (Nat.le_refl _))).mono ?_;rintro e w5 ⟨rfl,hb5'⟩;have hb5:Below w.heap.size w w5:=hb4.trans (Below.mono ⟨hb5'.os,hb5'.tape,hb5'.output,hb5'.size,hb5'.block⟩ hb4.size);obtain ⟨_,_,_,_,_,_,_,c75,_,fz5⟩:=cells9 (HL.out.2.below hb5).hR))
    all_goals go_wp2
    all_goals first
      | exact absurd hc (by decide)
      | (exfalso;simp_all;done)
      | (go_ret
         exact ⟨rfl,hb5.mono HL.out.1,fun e=>by cases e⟩)
  | true=>
    rw [Bool.and_eq_true] at hc
    obtain ⟨rfl,rfl⟩:=hc
    obtain ⟨u,hu⟩:∃ u,x.us[i]? = some u:=⟨_,List.getElem?_eq_getElem (by rw [HM.out];exact hil)⟩
    obtain ⟨nm,vs,vd,vr,y1,y2,y3,y4,y5,y6,rs,t1,t2,t3⟩:=HU.out.2.1 i u hu
    obtain ⟨ra,rc,rfl⟩:∃ ra rc,vr=.slice ra u.2.2.2.2.length rc:=by
      rcases t1.2 with ⟨rfl,hn0⟩ | ⟨g,cap',cur,rfl,_⟩
      · exact ⟨none,0,by rw [show u.2.2.2.2.length=0 from hn0]⟩
      · exact ⟨_,_,rfl⟩
    have cU:=(user_cells HU.out.1 y1).2.2.2.2.2
    obtain ⟨k,hk⟩:∃ k,u.2.2.2.2.length=k:=⟨_,rfl⟩
    have HRW:Aside (w.ownsRow lo 68 7 (.slice ra k rc) k rs /\ ∀ b,(Value.slice ra k rc).ownBlock=some b->role b=.row i):=by
      rw [<-hk]
      exact ⟨t1,t2⟩
    have HY:Aside (_ /\ _ /\ _ /\ _ /\ _ /\ _ /\ _ /\ _ /\ _ /\ _):=⟨hu,y1,y2,y3,y4,y5,y6,t1,t2,t3⟩
    clear hu y1 y2 y3 y4 y5 y6 t1 t2 t3
    rw [hk] at cU
    have HKK:Aside (u.2.2.2.2.length=k):=hk
    have hg:cond (Nat.beq k 64) (some (x,(7:Int))) (cond (Nat.ble k 64) (some (({ x with us:=x.us.set i (u.1,u.2.1,u.2.2.1,u.2.2.2.1,u.2.2.2.2++[(allow,r.2.1,r.2.2.1,(r.2.2.2.1.1,r.2.2.2.1.2),pf,pt)]) }:RSt),(0:Int))) none)=some (x',e'):=by
      rw [<-HF.out]
      unfold ruleG
      dsimp only
      rw [HI.out,Int.toNat_natCast,HY.out.1]
      dsimp only
      rw [hk]
      rfl
    clear hk HF
    by_cases h64:k=64
    · rw [h64] at hg
      have hx:some (x,(7:Int))=some (x',e'):=hg
      injection hx with hx
      obtain ⟨rfl,rfl⟩:=Prod.mk.inj hx
      clear hg
      go_enter Tryz.func97,Tryz.ntmps97
      go_wp2_with (first
        | (go_at_call 133;refine (hatw HL.out.2).mono ?_;rintro e w1 ⟨rfl,hb1⟩;have c11:=rl_cell c1 hb1)
        | (go_at_call 136;refine (pattern_calls hf (HT.out.below hb1) z1 HP.out.1).mono ?_;rintro e w2 ⟨cs,rfl,hcs,hb2'⟩;have hb2:=hb1.trans (hb2'.mono hb1.size);clear hb2';obtain ⟨s3,s4,rfl,k1,k2,k3,k4,k5,k6⟩:=rule_cells hcs;have HK:Aside (_ /\ _ /\ _ /\ _ /\ _ /\ _):=⟨k1,k2,k3,k4,k5,k6⟩;clear hcs k1 k2 k3 k4 k5 k6;have c22:=rl_cell c2 hb2;have hA2:ad.block < w2.heap.size:=show (⟨ad.block,ad.off+2,none⟩:Addr).block < _ from cell_lt c22)
        | (go_at_call 137;(refine (span_calls hf (HT.out.below (hb2.alloc hb2.size _)) z2 HP.out.2).mono ?_;rintro e w4 ⟨rfl,q1,q2,hb4'⟩;have hb4:Below w.heap.size w w4:=(hb2.alloc hb2.size _).trans (hb4'.mono (by simp;exact Nat.le_succ_of_le hb2.size));have HQ:Aside (_ /\ _):=⟨q1,q2⟩;have HB4:Aside (w4.heap[w2.heap.size]? = _):=(hb4'.block w2.heap.size (by simp)).trans (heap_alloc_new _ _);have HR4:Aside (RdAt lo w4 R M (.slice (some ⟨U,0,none⟩) m cap) role x):=HL.out.2.below hb4;clear q1 q2 hb4';obtain ⟨_,_,_,_,_,_,_,c74,_,fz4⟩:=cells9 HR4.out.hR;have c04:=rl_cell c0 hb4)))
      go_region_with (go_at_call 133;(refine (hatw (w':=w4.drew) (HR4.out.keep (fun b _=>rfl) (Nat.le_refl _))).mono ?_;rintro e w5 ⟨rfl,hb5'⟩;have hb5:Below w.heap.size w w5:=hb4.trans (Below.mono ⟨hb5'.os,hb5'.tape,hb5'.output,hb5'.size,hb5'.block⟩ hb4.size);obtain ⟨_,_,_,_,_,_,_,c75,_,fz5⟩:=cells9 (HL.out.2.below hb5).hR;have cU5:=rl_cell cU hb5;have hU5:U < w5.heap.size:=show (⟨U,i*6+5,none⟩:Addr).block < _ from cell_lt cU5;have hL5:Aside (w5.heap[w2.heap.size]? = _):=(hb5'.block w2.heap.size (by show w2.heap.size < w4.heap.size;exact (Array.getElem?_eq_some_iff.1 HB4.out).1)).trans HB4.out))
      all_goals go_wp2
      all_goals go_ret
      all_goals exact ⟨rfl,hb5.mono HL.out.1,fun e=>by cases e⟩
    · rw [show Nat.beq k 64=false from Bool.eq_false_iff.2 fun h=>h64 (Nat.eq_of_beq_eq_true h),cond_false] at hg
      cases hkl:Nat.ble k 64 with
      | false=>rw [hkl] at hg;cases hg
      | true=>
      rw [hkl] at hg
      have hkl:=Nat.le_of_ble_eq_true hkl
      injection hg with hg
      obtain ⟨rfl,rfl⟩:=Prod.mk.inj hg
      obtain ⟨i0,hi0,hz0,hz1,hz2⟩:=info_parts infoR
      have HZ:Aside (_ /\ _ /\ _ /\ _):=⟨hi0,hz0,hz1,hz2⟩
      clear hi0 hz0 hz1 hz2
      go_enter Tryz.func97,Tryz.ntmps97
      go_wp2_with (first
        | (go_at_call 133;refine (hatw HL.out.2).mono ?_;rintro e w1 ⟨rfl,hb1⟩;have c11:=rl_cell c1 hb1)
        | (go_at_call 136;refine (pattern_calls hf (HT.out.below hb1) z1 HP.out.1).mono ?_;rintro e w2 ⟨cs,rfl,hcs,hb2'⟩;have hb2:=hb1.trans (hb2'.mono hb1.size);clear hb2';obtain ⟨s3,s4,rfl,k1,k2,k3,k4,k5,k6⟩:=rule_cells hcs;have HK:Aside (_ /\ _ /\ _ /\ _ /\ _ /\ _):=⟨k1,k2,k3,k4,k5,k6⟩;clear hcs k1 k2 k3 k4 k5 k6;have c22:=rl_cell c2 hb2;have hA2:ad.block < w2.heap.size:=show (⟨ad.block,ad.off+2,none⟩:Addr).block < _ from cell_lt c22)
        | (go_at_call 137;(refine (span_calls hf (HT.out.below (hb2.alloc hb2.size _)) z2 HP.out.2).mono ?_;rintro e w4 ⟨rfl,q1,q2,hb4'⟩;have hb4:Below w.heap.size w w4:=(hb2.alloc hb2.size _).trans (hb4'.mono (by simp;exact Nat.le_succ_of_le hb2.size));have HQ:Aside (_ /\ _):=⟨q1,q2⟩;have HB4:Aside (w4.heap[w2.heap.size]? = _):=(hb4'.block w2.heap.size (by simp)).trans (heap_alloc_new _ _);have HR4:Aside (RdAt lo w4 R M (.slice (some ⟨U,0,none⟩) m cap) role x):=HL.out.2.below hb4;clear q1 q2 hb4';obtain ⟨_,_,_,_,_,_,_,c74,_,fz4⟩:=cells9 HR4.out.hR;have c04:=rl_cell c0 hb4)))
      go_region_with (go_at_call 133;(refine (hatw (w':=w4.drew) (HR4.out.keep (fun b _=>rfl) (Nat.le_refl _))).mono ?_;rintro e w5 ⟨rfl,hb5'⟩;have hb5:Below w.heap.size w w5:=hb4.trans (Below.mono ⟨hb5'.os,hb5'.tape,hb5'.output,hb5'.size,hb5'.block⟩ hb4.size);obtain ⟨_,_,_,_,_,_,_,c75,_,fz5⟩:=cells9 (HL.out.2.below hb5).hR;have cU5:=rl_cell cU hb5;have hU5:U < w5.heap.size:=show (⟨U,i*6+5,none⟩:Addr).block < _ from cell_lt cU5;have hL5:Aside (w5.heap[w2.heap.size]? = _):=(hb5'.block w2.heap.size (by show w2.heap.size < w4.heap.size;exact (Array.getElem?_eq_some_iff.1 HB4.out).1)).trans HB4.out;obtain ⟨l0,l1,l2,l3,l4,l5,l6,lz⟩:=cells7 hL5.out))
      all_goals
        go_wp2
        generalize hws:World.setCell _ _ _=ws
        obtain ⟨e1,e2,e3,e4,e5,e6⟩:=rule_stored hL5.out hws
        clear l0 l1 l2 l3 l4 l5 l6 lz hws
        obtain ⟨l0,l1,l2,l3,l4,l5,l6,lz⟩:=cells7 e1
        have hUw:U < w.heap.size:=show (⟨U,i*6+5,none⟩:Addr).block < _ from cell_lt cU
        have hw25:w.heap.size<=w2.heap.size:=hb2.size
        have hws:w.heap.size<=ws.heap.size:=by rw [e3];exact hb5.size
        have hold:∀ b,b < w.heap.size->ws.heap[b]? = w.heap[b]?:=fun b hb=>(e2 b (by omega)).trans (hb5.block b hb)
        have cUs:ws.cell? ⟨U,i*6+5,none⟩=some (.slice ra k rc):=(World.cell?_of_block (hold U hUw)).trans cU
        have fUs:ws.frozen? ⟨U,i*6+5,none⟩=false:=(World.frozen?_of_block (hold U hUw)).trans (HU.out.1.frozenAt _)
        have hUs:U < ws.heap.size:=by omega
        have hLs:w2.heap.size < ws.heap.size:=(Array.getElem?_eq_some_iff.1 e1).1
        have HVU:Aside (some U≠(Value.slice ra k rc).ownBlock):=fun e=>by
          have h1:=HRW.out.2 U e.symm
          rw [HU.out.2.2] at h1
          cases h1
        have HO:Aside (ws.ownsRow lo 68 7 (.slice ra k rc) k rs):=by
          exact owns_keep HRW.out.1 fun b hb=>hold b (HL.out.2.lt b (by rw [HRW.out.2 b hb];intro e;cases e)).2
        have HH:Aside (_ /\ _ /\ _ /\ _ /\ _):=⟨hold,hws,e4.trans hb5.os,e5.trans hb5.tape,e6.trans hb5.output⟩
        clear hold e1 e2 e3 e4 e5 e6 lz cU5 hL5 hU5 hb5' c75 fz5
        go_region_law ((refine step_append_own_at rfl (.tmp 74) (.tmp 76) 61 rfl lo 68 i0 ruleZ 7 72 Tryz.underlying61 HZ.out.1 HZ.out.2.1 HZ.out.2.2.1 HZ.out.2.2.2 rfl (by decide) (.slice ra k rc) k rs (by simp [Act.eval]) (owns_keep HO.out fun b hb=>heap_alloc_old _ _ (HO.out.lt b hb).2) ⟨ws.heap.size,0,none⟩ 1 1 [.bool allow,.int .i64 r.2.1,.string s3,.string s4,.int .i64 r.2.2.2.1.2,.int .i64 pf,.int .i64 pt] (by simp [Act.eval]) rfl (cells_new _ _ _) (fun u hu=>List.all_eq_true.1 (show List.all [Value.bool allow,.int .i64 r.2.1,.string s3,.string s4,.int .i64 r.2.2.2.1.2,.int .i64 pf,.int .i64 pt] Value.oneCell'=true from rfl) u hu) (by unfold maxLen;omega) (by omega) (Nat.le_trans HL.out.1 (Nat.le_trans hws (by simp))) ?_;intro v' wz hown' hgrow hat';obtain ⟨va',vc',rfl⟩:=own_slice hown';have hUz:wz.heap[U]? = ws.heap[U]?:=(hgrow.block U (by simp;omega) HVU.out).trans (heap_alloc_old _ _ hUs);have cUz:wz.cell? ⟨U,i*6+5,none⟩=some (.slice ra k rc):=(World.cell?_of_block hUz).trans cUs;have fUz:wz.frozen? ⟨U,i*6+5,none⟩=false:=(World.frozen?_of_block hUz).trans fUs))
        all_goals
          go_wp2
          go_ret
          obtain ⟨y0,y1,y2,y3,y4,y5,y6,t1,t2,t3⟩:=HY.out
          exact rule_end HM.out HL.out.1 HL.out.2 HU.out y0 y1 y2 y3 y4 y5 y6 t1 t2 t3 HKK.out rfl (by rw [<-HK.out.1,<- HK.out.2.1];exact rule_rep HK.out.2.2.1 HK.out.2.2.2.1 HK.out.2.2.2.2.1 HK.out.2.2.2.2.2 HQ.out.1 HQ.out.2) hgrow hown' hat' (fun b hb=>(heap_alloc_old _ _ (Nat.lt_of_lt_of_le hb hws)).trans (HH.out.1 b hb)) (Nat.le_trans hws (by simp)) HH.out.2.2 rfl ⟨rfl,rfl,rfl⟩
set_option maxHeartbeats 8000000 in
set_option maxRecDepth 1000000 in
theorem rule_walk {T:Tab} (hf:Facts T) {lo:Nat} {w:World} {R M:Nat} {v:Value} {role:Nat->Role} {x:RSt} (h:RdAt lo w R M v role x) (hT:TabAt T w) (hlo:lo<=w.heap.size) (few:x.us.length<=16) {allow:Bool} {a:Option Addr} {n c:Nat} {ws:List ByteArray} (hn:ws.length=n) (hws:∀ i s,ws[i]? = some s -> ∃ ad,a=some ad /\ w.cell? (ad.add i)=some (.string s) /\ s.size<=maxLen) {x':RSt} {e':Int} (hF:ruleP x allow (ws.map bytesL)=some (x',e')) :
    Calls Tryz.prog 97 #[.pointer (some ⟨R,0,none⟩),.bool allow,.slice a n c] w fun e w'=>RdPost lo R M x' e' e w w':=by
  by_cases h3:n=3
  · subst h3
    match ws,hn,hws,hF with
    | [s0,s1,s2],_,hws,hF=>
    obtain ⟨ad,rfl,c0,z0⟩:=hws 0 s0 rfl
    obtain ⟨_,e1,c1,z1⟩:=hws 1 s1 rfl
    injection e1 with e1
    subst e1
    obtain ⟨_,e1,c2,z2⟩:=hws 2 s2 rfl
    injection e1 with e1
    subst e1
    have c0:w.cell? ad=some (.string s0):=by rw [rl_add_0] at c0;exact c0
    rw [rl_add_pos _ (by decide)] at c1 c2
    have hF:cond (decide (usAt x.us (bytesL s0) < 0)) (some (x,2)) ((F_conf_pattern (bytesL s1)).bind fun p=>(F_conf_span (bytesL s2)).bind fun sp=>ruleG x (bytesL s0) allow p sp)=some (x',e'):=hF
    cases hat:decide (usAt x.us (bytesL s0) < 0) with
    | true=>
      rw [hat] at hF
      injection hF with hF
      obtain ⟨rfl,rfl⟩:=Prod.mk.inj hF
      exact rule_none h hlo few c0 (of_decide_eq_true hat)
    | false=>
      rw [hat,cond_false] at hF
      have hat:=of_decide_eq_false hat
      obtain ⟨⟨p0,p1,p2,p3,p4,p5,p6,p7⟩,k1,hF⟩:=Option.bind_eq_some_iff.1 hF
      obtain ⟨⟨q0,q1,q2⟩,k2,hF⟩:=Option.bind_eq_some_iff.1 hF
      exact rule_three hf h hT hlo few c0 c1 c2 z1 z2 (i:=(usAt x.us (bytesL s0)).toNat) (by omega) (r:=(p0,p1,p2,(p3,p4),p5,p6)) (b1:=p7) k1 k2 hF
  · have hF : some (x, (2 : Int)) = some (x', e') := by
      rw [<-hF]
      match ws,hn with
      | [],_=>rfl
      | [_],_=>rfl
      | [_,_],_=>rfl
      | [_,_,_],hn=>exact absurd hn.symm h3
      | _::_::_::_::_,_=>rfl
    injection hF with hF
    obtain ⟨rfl,rfl⟩:=Prod.mk.inj hF
    clear hws hn
    go_enter Tryz.func97,Tryz.ntmps97
    go_wp2
    go_ret
    exact ⟨rfl,Below.refl _ _,fun e=>by cases e⟩
def limW (k:Nat):ByteArray:=match k with
 | 0=>⟨#[99,111,110,110,115]⟩
 | 1=>⟨#[115,116,114,101,97,109,115]⟩
 | 2=>⟨#[98,117,102,102,101,114]⟩
 | 3=>⟨#[108,111,103]⟩
 | 4=>⟨#[105,100,108,101]⟩
 | 5=>⟨#[100,105,97,108]⟩
 | _=>⟨#[108,105,115,116]⟩
def limLo (k:Nat):Int:=match k with | 3=>0 | _=>1
def limHi (k:Nat):Int:=match k with
 | 0=>16
 | 1=>100
 | 2=>65535
 | 3=>100000
 | 4=>1099511627776
 | 5=>1099511627776
 | _=>16384
def limCells (R:Nat):Array Value:=#[.string (limW 0),.int .i64 (limLo 0),.int .i64 (limHi 0),.pointer (some ⟨R,0,none⟩),.string (limW 1),.int .i64 (limLo 1),.int .i64 (limHi 1),.pointer (some ⟨R,1,none⟩),.string (limW 2),.int .i64 (limLo 2),.int .i64 (limHi 2),.pointer (some ⟨R,2,none⟩),.string (limW 3),.int .i64 (limLo 3),.int .i64 (limHi 3),.pointer (some ⟨R,3,none⟩),.string (limW 4),.int .i64 (limLo 4),.int .i64 (limHi 4),.pointer (some ⟨R,4,none⟩),.string (limW 5),.int .i64 (limLo 5),.int .i64 (limHi 5),.pointer (some ⟨R,5,none⟩),.string (limW 6),.int .i64 (limLo 6),.int .i64 (limHi 6),.pointer (some ⟨R,6,none⟩)]
set_option maxHeartbeats 8000000 in
set_option maxRecDepth 1000000 in
theorem lims_walk (R:Nat) (w:World):Calls Tryz.prog 60 #[.pointer (some ⟨R,0,none⟩)] w fun e w'=>e=.returned (.slice (some ⟨w.heap.size,0,none⟩) 7 7) /\ w'.heap[w.heap.size]? = some (.cells (limCells R) 124 (0,0)) /\ Below w.heap.size w w':=by
 go_enter Tryz.func60,Tryz.ntmps60
 go_wp2
 go_region
 go_wp2
 go_ret
 exact ⟨rfl,heap_alloc_new w _,Below.drew ((Below.refl _ w).alloc (Nat.le_refl _) _)⟩
theorem lim_at {w:World} {B R:Nat} {T:TypeId} (h:w.heap[B]? = some (.cells (limCells R) T (0,0))) {k:Nat} (hk:k < 7):w.cell? ⟨B,k*4,none⟩=some (.string (limW k)) /\ w.cell? ⟨B,k*4+1,none⟩=some (.int .i64 (limLo k)) /\ w.cell? ⟨B,k*4+2,none⟩=some (.int .i64 (limHi k)) /\ w.cell? ⟨B,k*4+3,none⟩=some (.pointer (some ⟨R,k,none⟩)):=by
 match k,hk with
 | 0,_ | 1,_ | 2,_ | 3,_ | 4,_ | 5,_ | 6,_=>refine ⟨?_,?_,?_,?_⟩ <;> (rw [cell_at h];rfl)
 | k+7,hk=>omega
theorem told_find:∀ (bs:List ByteArray) (l:List MapEntry) (s:ByteArray) (i:Nat),l.map (fun e=>(e.key,e.val))=bs.map (fun x=>(Value.string x,Value.bool true)) ->
  ((bs.map bytesL).contains (bytesL s)=false /\ Instr.findNow .string (.string s) l i=some none) \/ ((bs.map bytesL).contains (bytesL s)=true /\ ∃ j,Instr.findNow .string (.string s) l i=some (some (j,.bool true)))
 | [],[],s,i,_=>.inl ⟨rfl,rfl⟩
 | [],_::_,_,_,h=>by cases h
 | _::_,[],_,_,h=>by cases h
 | k::bs,e::l,s,i,h=>by
  simp only [List.map_cons,List.cons.injEq,Prod.mk.injEq] at h
  obtain ⟨⟨h1,h2⟩,h3⟩:=h
  unfold Instr.findNow
  by_cases hk:k=s
  ·subst hk
   rw [h1]
   exact .inr ⟨by simp,i,by simp [Instr.sameNow,h2,(MapKept.bytes_beq k k).2 rfl]⟩
  ·rw [h1]
   have hne:Instr.sameNow .string (.string s) (.string k)=some false:=by
    have:(s==k)=false:=Bool.eq_false_iff.2 fun e=>hk ((MapKept.bytes_beq s k).1 e).symm
    simp [Instr.sameNow,this]
   rw [hne]
   have hb:(bytesL s==bytesL k)=false:=by
    rw [Bool.eq_false_iff]
    intro e
    have e:bytesL s=bytesL k:=by simpa using e
    have h1:=bytes_eq s k
    rw [show (bytesL s==bytesL k)=true by rw [e];simp] at h1
    have h2:s.toList=k.toList:=by simpa using h1
    rw [toList_data,toList_data] at h2
    apply hk
    have h3:s.data=k.data:=Array.toList_inj.1 h2
    cases s;cases k;simp_all
   rcases told_find bs l s (i+1) h3 with ⟨q1,q2⟩ | ⟨q1,q2⟩
   ·exact .inl ⟨by rw [List.map_cons,List.contains_cons,q1,hb];rfl,q2⟩
   ·exact .inr ⟨by rw [List.map_cons,List.contains_cons,q1];simp,q2⟩
theorem run_told {w:World} {m:Nat} {ks:List (List Int)} (h:MapB w m ks) (s:ByteArray) :
  (Instr.lookup 108 (.map (some m)) (.string s) false).run Tryz.prog w=.ok (.bool (ks.contains (bytesL s))) w:=by
 obtain ⟨es,clock,hb,_,bs,rfl,he⟩:=h
 have hc:∀ e,(Instr.checkKey e 10000 9 (.string s)).run Tryz.prog w=.ok () w:=fun e=>MapKept.run_checkKey (k:=.string s) Tryz.underlying9 (by simp [MapKept.IsKey]) e 9999
 rcases told_find bs es.toList s 0 he with ⟨h1,h2⟩ | ⟨h1,j,h2⟩
 ·rw [h1]
  simp [Instr.lookup,run_underlying Tryz.underlying108,MapKept.run_getObj_map hb,hc,MapKept.run_findKey Tryz.underlying9 h2,Result.andThen]
 ·rw [h1]
  simp [Instr.lookup,run_underlying Tryz.underlying108,MapKept.run_getObj_map hb,hc,MapKept.run_findKey Tryz.underlying9 h2,Result.andThen]
theorem push_modify {α:Type} (es:Array α) (a:α) (f:α->α):(es.push a).modify es.size f=es.push (f a):=by
 apply Array.ext
 ·simp
 ·intro i h1 h2
  rw [Array.getElem_modify]
  by_cases hi:es.size=i
  ·subst hi
   simp
  ·rw [if_neg hi]
   have hlt:i < es.size:=by
    simp at h2
    omega
   rw [Array.getElem_push_lt hlt,Array.getElem_push_lt hlt]
def entE (s:ByteArray) (b:Bool) (clock:Nat):MapEntry:={ key:=.string s,val:=.bool b,born:=clock }
theorem ent_found {es:Array MapEntry} {clock:Nat} (hborn:∀ e∈es.toList,e.born < clock) (s:ByteArray):(es.push (entE s false clock)).findIdx? (fun e=>(e.born:Int)==(clock:Int))=some es.size:=by
 rw [Array.findIdx?_push]
 have:es.findIdx? (fun e=>(e.born:Int)==(clock:Int))=none:=by
  rw [Array.findIdx?_eq_none_iff]
  intro e hm
  have:=hborn e (by simpa using hm)
  simp
  omega
 rw [this]
 simp [entE]
set_option maxHeartbeats 1000000 in
theorem run_entry {w:World} {m:Nat} {ks:List (List Int)} (h:MapB w m ks) {s:ByteArray} (hs:ks.contains (bytesL s)=false) :
  ∃ (st:Nat) (w1 w2:World),(Instr.mapEntry 108 (.map (some m)) (.string s)).run Tryz.prog w=.ok (.tuple #[.bool false,.int .i64 st]) w1 /\ (Instr.entryStore 108 (.map (some m)) (.int .i64 st) (.bool true)).run Tryz.prog w1=.ok () w2 /\
   MapB w2 m (ks++[bytesL s]) /\ w2.os=w.os /\ w2.tape=w.tape /\ w2.output=w.output /\ w2.heap.size=w.heap.size /\ ∀ b,b≠m->w2.heap[b]? = w.heap[b]?:=by
 obtain ⟨es,clock,hb,hborn,bs,rfl,he⟩:=h
 have hc:∀ e,(Instr.checkKey e 10000 9 (.string s)).run Tryz.prog w=.ok () w:=fun e=>MapKept.run_checkKey (k:=.string s) Tryz.underlying9 (by simp [MapKept.IsKey]) e 9999
 rcases told_find bs es.toList s 0 he with ⟨h1,h2⟩ | ⟨h1,j,h2⟩
 ·have hf:=ent_found hborn s
  obtain ⟨O1,hO1⟩:∃ O1:Obj,O1=.map (es.push (entE s false clock)) (clock+1):=⟨_,rfl⟩
  obtain ⟨w1,hw1⟩:∃ w1:World,w1={ w with heap:=w.heap.setIfInBounds m O1 }:=⟨_,rfl⟩
  have q1:w1.heap[m]? = some (.map (es.push (entE s false clock)) (clock+1)):=by rw [hw1,<- hO1];exact (MapKept.heap_set hb).1
  have q2:∀ b,b≠m->w1.heap[b]? = w.heap[b]?:=fun b hne=>by rw [hw1];exact (MapKept.heap_set hb).2 b hne
  obtain ⟨O2,hO2⟩:∃ O2:Obj,O2=.map (es.push (entE s true clock)) (clock+1):=⟨_,rfl⟩
  obtain ⟨w2,hw2⟩:∃ w2:World,w2={ w1 with heap:=w1.heap.setIfInBounds m O2 }:=⟨_,rfl⟩
  have r1:w2.heap[m]? = some (.map (es.push (entE s true clock)) (clock+1)):=by rw [hw2,<- hO2];exact (MapKept.heap_set q1).1
  have r2:∀ b,b≠m->w2.heap[b]? = w1.heap[b]?:=fun b hne=>by rw [hw2];exact (MapKept.heap_set q1).2 b hne
  refine ⟨clock,w1,w2,?_,?_,⟨_,_,r1,?_,bs++[s],by simp,?_⟩,by rw [hw2,hw1],by rw [hw2,hw1],by rw [hw2,hw1],by rw [hw2,hw1];simp,fun b hne=>(r2 b hne).trans (q2 b hne)⟩
  ·have hset:=MapKept.run_setObj_map (P:=Tryz.prog) O1 hb
   rw [<-hw1,hO1] at hset
   unfold entE at hset
   simp [Instr.mapEntry,run_underlying Tryz.underlying108,MapKept.run_getObj_map hb,hc,MapKept.run_findKey Tryz.underlying9 h2,hset,Result.andThen,goInt]
  ·have hset:=MapKept.run_setObj_map (P:=Tryz.prog) O2 q1
   rw [<-hw2,hO2] at hset
   have hm:(es.push (entE s false clock)).modify es.size (fun e=>{ e with val:=.bool true })=es.push (entE s true clock):=push_modify _ _ _
   simp [Instr.entryStore,MapKept.run_getObj_map q1,asInt,asIntOf,hf,hm,hset,Result.andThen]
  ·intro e hm
   simp at hm
   rcases hm with hm | rfl
   ·have:=hborn e (by simpa using hm)
    omega
   ·show clock < clock+1
    omega
  ·simp [he,entE]
 ·rw [h1] at hs;cases hs
def RSt.setLim (x:RSt) (k:Nat) (n:Int):RSt:=match k with
 | 0=>{ x with c0:=n }
 | 1=>{ x with c1:=n }
 | 2=>{ x with c2:=n }
 | 3=>{ x with c3:=n }
 | 4=>{ x with c4:=n }
 | 5=>{ x with c5:=n }
 | _=>{ x with c6:=n }
def RSt.lim (x:RSt) (k:Nat):Int:=match k with
 | 0=>x.c0
 | 1=>x.c1
 | 2=>x.c2
 | 3=>x.c3
 | 4=>x.c4
 | 5=>x.c5
 | _=>x.c6
def limAt (a:List Int):Option Nat:=(List.range 7).find? fun k=>bytesL (limW k)==a
noncomputable def limitsP (x:RSt):List (List Int)->Option (RSt×Bool)
 | [a,b]=>cond (x.told.contains a) (some (x,false)) (match limAt a with
  | none=>some (x,false)
  | some k=>(F_conf_number b (limLo k) (limHi k)).bind fun p=>some ({ x.setLim k p.1 with told:=x.told++[a] },p.2))
 | _=>some (x,false)
theorem told_more {lo:Nat} {W w2:World} {R M:Nat} {v:Value} {role:Nat->Role} {x:RSt} {k:Nat} {n:Int} {s:ByteArray} (h:RdAt lo W R M v role x) (hk:k < 7) (hn:(Lit.int .i64 n).wf=true) (hm:MapB w2 M (x.told++[bytesL s])) (ho:∀ b,b≠M->w2.heap[b]? = (W.setCell ⟨R,k,none⟩ (.int .i64 n)).heap[b]?) (hsz:w2.heap.size=W.heap.size) :
    RdAt lo w2 R M v role { x.setLim k n with told:=x.told++[bytesL s] }:=by
  have hRM:R≠M:=fun e=>by
    have:=h.rM
    rw [<-e,h.rR] at this
    cases this
  have hkeep:∀ b,b≠M->b≠R->w2.heap[b]? = W.heap[b]?:=fun b h1 h2=>by
    rw [ho b h1,setCell_heap,if_neg (by show b≠R;exact h2)]
  have hne:∀ b,role b≠.rdr->role b≠.map->w2.heap[b]? = W.heap[b]?:=fun b h1 h2=>hkeep b (fun e=>h2 (by rw [e];exact h.rM)) (fun e=>h1 (by rw [e];exact h.rR))
  have hR:=h.hR
  have hwf:=h.wf
  obtain ⟨xs,u1,u2,u3⟩:=h.hU
  have hU:UsAt lo w2 role x.us v:=⟨xs,owns_keep u1 fun b hb=>hne b (by rw [u2 b hb];intro e;cases e) (by rw [u2 b hb];intro e;cases e),u2,fun i u hu=>(u3 i u hu).keep fun b hb=>⟨rfl,hne b (by rcases hb with hb | hb <;> (rw [hb];intro e;cases e)) (by rcases hb with hb | hb <;> (rw [hb];intro e;cases e))⟩⟩
  have hlt:∀ b,role b≠.no->lo<=b /\ b < w2.heap.size:=fun b hb=>by rw [hsz];exact h.lt b hb
  have h2:w2.heap[R]? = some (.cells (#[Value.int .i64 x.c0,.int .i64 x.c1,.int .i64 x.c2,.int .i64 x.c3,.int .i64 x.c4,.int .i64 x.c5,.int .i64 x.c6,v,.map (some M)].setIfInBounds k (.int .i64 n)) 110 (0,0)):=by
    rw [ho R hRM]
    exact set_heap hR
  have hints:∀ c∈(x.setLim k n).ints,c=n \/ c∈x.ints:=by
    match k,hk with
    | 0,_ | 1,_ | 2,_ | 3,_ | 4,_ | 5,_ | 6,_=>
      intro c hc
      simp [RSt.setLim,RSt.ints] at hc ⊢
      omega
    | k+7,hk=>omega
  refine ⟨?_,h.rR,hm,h.rM,?_,hlt,fun c hc=>?_⟩
  · rw [h2]
    match k,hk with
    | 0,_ | 1,_ | 2,_ | 3,_ | 4,_ | 5,_ | 6,_=>rfl
    | k+7,hk=>omega
  · have : (x.setLim k n).us = x.us := by
      unfold RSt.setLim
      split <;> rfl
    show UsAt lo w2 role (x.setLim k n).us v
    rw [this]
    exact hU
  · rcases hints c hc with rfl | h
    · exact hn
    · exact hwf c h
theorem lim_cell {lo:Nat} {W:World} {R M:Nat} {v:Value} {role:Nat->Role} {x:RSt} (h:RdAt lo W R M v role x) {k:Nat} (hk:k < 7):W.cell? ⟨R,k,none⟩=some (.int .i64 (x.lim k)):=by
 obtain ⟨c0,c1,c2,c3,c4,c5,c6,_⟩:=cells9 h.hR
 match k,hk with
 | 0,_=>exact c0
 | 1,_=>exact c1
 | 2,_=>exact c2
 | 3,_=>exact c3
 | 4,_=>exact c4
 | 5,_=>exact c5
 | 6,_=>exact c6
 | k+7,hk=>omega
theorem limAt_some {a:List Int} {k:Nat} (hk:k < 7) (h:(bytesL (limW k)==a)=true) (hn:∀ j,j < k->(bytesL (limW j)==a)=false):limAt a=some k:=by
 unfold limAt
 rw [List.find?_range_eq_some]
 refine ⟨h,by simpa using hk,fun j hj=>?_⟩
 rw [hn j hj];rfl
theorem limAt_none {a:List Int} (hn:∀ j,j < 7->(bytesL (limW j)==a)=false):limAt a=none:=by
 unfold limAt
 rw [List.find?_eq_none]
 intro k hk
 rw [hn k (by simpa using hk)]
 decide
def LmPost (lo:Nat) (R M:Nat) (x':RSt) (b:Bool) (e:Ending) (w w':World):Prop:=e=.returned (.bool b) /\ Below lo w w' /\ (b=true -> ∃ v' role',RdAt lo w' R M v' role' x')
set_option maxHeartbeats 8000000 in
set_option maxRecDepth 1000000 in
theorem lm_few {lo:Nat} {w:World} {R M:Nat} {x:RSt} {a:Option Addr} {n c:Nat} (hn:n≠2):Calls Tryz.prog 95 #[.pointer (some ⟨R,0,none⟩),.slice a n c] w fun e w'=>LmPost lo R M x false e w w':=by
 have hb:((n:Int) != 2)=true:=by simp;omega
 have hb2:(n:Int)≠2:=by omega
 go_enter Tryz.func95,Tryz.ntmps95
 go_wp2
 go_region
 all_goals (go_wp2;go_ret)
 all_goals exact ⟨rfl,Below.drew (Below.refl _ w),fun e=>by cases e⟩
set_option maxHeartbeats 8000000 in
set_option maxRecDepth 1000000 in
theorem lm_told {lo:Nat} {w:World} {R M:Nat} {v:Value} {role:Nat->Role} {x:RSt} (h:RdAt lo w R M v role x) {ad:Addr} {c:Nat} {s0:ByteArray} (c0:w.cell? ad=some (.string s0)) (ht:x.told.contains (bytesL s0)=true):Calls Tryz.prog 95 #[.pointer (some ⟨R,0,none⟩),.slice (some ad) 2 c] w fun e w'=>LmPost lo R M x false e w w':=by
 have hl:=run_told h.hM s0
 have hld:=run_told (w:=w.drew) (h.hM.keep rfl) s0
 rw [ht] at hl hld
 obtain ⟨_,_,_,_,_,_,_,_,c8,_⟩:=cells9 h.hR
 clear h
 go_enter Tryz.func95,Tryz.ntmps95
 go_wp2
 go_region
 all_goals (go_wp2;go_ret)
 all_goals exact ⟨rfl,Below.drew (Below.refl _ w),fun e=>by cases e⟩
theorem lm_add_pos (a:Addr) {j:Nat} (hj:j≠0):a.add j=⟨a.block,a.off+j,none⟩:=by
 unfold Addr.add
 rw [if_neg hj]
theorem lm_add_0 (a:Addr):a.add 0=a:=by unfold Addr.add;simp
theorem lm_cell {w w':World} {a:Addr} {u:Value} (h:w.cell? a=some u) (hb:Below w.heap.size w w'):w'.cell? a=some u:=(hb.cell (cell_lt h)).trans h
theorem lm_word (k:Nat) (s:ByteArray):((limW k).toList==s.toList)=(bytesL (limW k)==bytesL s):=bytes_eq _ _
theorem lim_wf (k:Nat):(Lit.int .i64 (limLo k)).wf=true /\ (Lit.int .i64 (limHi k)).wf=true:=by
 match k with
 | 0 | 1 | 2 | 3 | 4 | 5=>exact ⟨by decide,by decide⟩
 | k+6=>exact ⟨rfl,rfl⟩
set_option maxHeartbeats 16000000 in
set_option maxRecDepth 1000000 in
theorem lm_two {T:Tab} (hf:Facts T) {lo:Nat} {w:World} {R M:Nat} {v:Value} {role:Nat->Role} {x:RSt} (h:RdAt lo w R M v role x) (hT:TabAt T w) (hlo:lo<=w.heap.size) {ad:Addr} {c:Nat} {s0 s1:ByteArray} (c0:w.cell? ad=some (.string s0)) (c1:w.cell? ⟨ad.block,ad.off+1,none⟩=some (.string s1)) (z1:s1.size<=maxLen) (hno:role ad.block=.no) (ht:x.told.contains (bytesL s0)=false)
  {x':RSt} {e':Bool} (hF:(match limAt (bytesL s0) with
  | none=>some (x,false)
  | some k=>(F_conf_number (bytesL s1) (limLo k) (limHi k)).bind fun p=>some (({ x.setLim k p.1 with told:=x.told++[bytesL s0] }:RSt),p.2))=some (x',e')) :
  Calls Tryz.prog 95 #[.pointer (some ⟨R,0,none⟩),.slice (some ad) 2 c] w fun e w'=>LmPost lo R M x' e' e w w':=by
 have hl:=run_told h.hM s0
 have hld:=run_told (w:=w.drew) (h.hM.keep rfl) s0
 rw [ht] at hl hld
 obtain ⟨_,_,_,_,_,_,_,_,c8,_⟩:=cells9 h.hR
 have HL:Aside (lo<=w.heap.size /\ RdAt lo w R M v role x /\ TabAt T w /\ role ad.block=.no /\ x.told.contains (bytesL s0)=false):=⟨hlo,h,hT,hno,ht⟩
 have HF:Aside ((match limAt (bytesL s0) with
  | none=>some (x,false)
  | some k=>(F_conf_number (bytesL s1) (limLo k) (limHi k)).bind fun p=>some (({ x.setLim k p.1 with told:=x.told++[bytesL s0] }:RSt),p.2))=some (x',e')):=hF
 clear h hlo hT hno hF ht
 go_enter Tryz.func95,Tryz.ntmps95
 go_wp2
 go_region
 clear hl hld
 go_wp2_with (go_at_call 60;refine (lims_walk R _).mono ?_;rintro e W1 ⟨rfl,hB,hb1⟩)
 have hb1:Below w.heap.size w W1:=⟨hb1.os,hb1.tape,hb1.output,hb1.size,hb1.block⟩
 have HB:Aside (W1.heap[w.heap.size]? = some (.cells (limCells R) 124 (0,0))):=hB
 clear hB
 go_loopw [27] (fun vi wr=>∃ k:Nat,vi=.int .i64 k /\ k<=7 /\ Below W1.heap.size W1 wr /\ Aside (∀ j,j < k->(bytesL (limW j)==bytesL s0)=false)) (fun vi _=>7 - (intOf vi).toNat)
 case atStart=>exact ⟨0,rfl,by omega,Below.refl _ _,fun j hj=>absurd hj (by omega)⟩
 case round=>
  obtain ⟨k,rfl,hk,hbr,HA⟩:=hrel
  have hb2:Below w.heap.size w wr:=hb1.trans (hbr.mono hb1.size)
  by_cases hk7:k < 7
  ·have hBr:wr.heap[w.heap.size]? = some (.cells (limCells R) 124 (0,0)):=(hbr.block _ (Array.getElem?_eq_some_iff.1 HB.out).1).trans HB.out
   have hBl:w.heap.size < wr.heap.size:=(Array.getElem?_eq_some_iff.1 hBr).1
   obtain ⟨k0,k1,k2,k3⟩:=lim_at hBr hk7
   have c0r:=lm_cell c0 hb2
   have c1r:=lm_cell c1 hb2
   have hadl:ad.block < wr.heap.size:=cell_lt c0r
   have hwd:=lm_word k s0
   obtain ⟨lw,hlw⟩:∃ lw,limW k=lw:=⟨_,rfl⟩
   obtain ⟨llo,hllo⟩:∃ l,limLo k=l:=⟨_,rfl⟩
   obtain ⟨lhi,hlhi⟩:∃ l,limHi k=l:=⟨_,rfl⟩
   rw [hlw] at k0 hwd
   rw [hllo] at k1
   rw [hlhi] at k2
   have HW:Aside (limW k=lw /\ limLo k=llo /\ limHi k=lhi):=⟨hlw,hllo,hlhi⟩
   clear hBr hlw hllo hlhi
   cases hq:bytesL lw==bytesL s0 with
   | false=>
    rw [hq] at hwd
    have HQ:Aside ((bytesL lw==bytesL s0)=false):=hq
    clear hq
    go_wp2
    go_region
    go_wp2
    refine ⟨⟨k+1,by simp,by omega,Below.drew (hbr.alloc hbr.size _),fun j hj=>?_⟩,by simp [intOf];omega⟩
    rcases Nat.lt_or_ge j k with h | h
    ·exact HA.out j h
    ·obtain rfl:j=k:=by omega
     rw [HW.out.1]
     exact HQ.out
   | true=>
    rw [hq] at hwd
    have hfind:limAt (bytesL s0)=some k:=limAt_some hk7 (by rw [HW.out.1];exact hq) HA.out
    have hF:=HF.out
    rw [hfind] at hF
    obtain ⟨⟨n,b⟩,hnum,hF⟩:=Option.bind_eq_some_iff.1 hF
    injection hF with hF
    obtain ⟨rfl,rfl⟩:=Prod.mk.inj hF
    rw [HW.out.2.1,HW.out.2.2] at hnum
    obtain ⟨wlo,whi⟩:=lim_wf k
    rw [HW.out.2.1] at wlo
    rw [HW.out.2.2] at whi
    have hTb:∀ W:World,(∀ b,b < w.heap.size->W.heap[b]? = w.heap[b]?)->TabAt T W:=fun W hW p hp=>by
     obtain ⟨ty,fr,h1⟩:=HL.out.2.2.1 p hp
     exact ⟨ty,fr,(hW p.1 (Array.getElem?_eq_some_iff.1 h1).1).trans h1⟩
    have hwb:w.heap.size<=wr.heap.size:=hb2.size
    have hTz:TabAt T (wr.alloc (.cells #[.string lw,.int .i64 llo,.int .i64 lhi,.pointer (some ⟨R,k,none⟩)] 124)).drew.drew:=hTb _ fun b hb=>(heap_alloc_old wr _ (Nat.lt_of_lt_of_le hb hwb)).trans (hb2.block b hb)
    have HX:Aside (_ /\ _ /\ _ /\ _):=⟨hTz,hnum,wlo,whi⟩
    clear hTz
    clear HF hfind hq hTb hnum wlo whi
    go_wp2
    go_region
    go_wp2
    go_region_with (go_at_call 131;(refine (number_calls hf HX.out.1 z1 HX.out.2.2.1 HX.out.2.2.2 HX.out.2.1).mono ?_;rintro e w9 ⟨rfl,hwn,hb9⟩))
    all_goals
     have hb9':Below w.heap.size w w9:=⟨hb9.os.trans hb2.os,hb9.tape.trans hb2.tape,hb9.output.trans hb2.output,Nat.le_trans hwb (Nat.le_trans (by simp) hb9.size),fun b hb=>(hb9.block b (by simp;omega)).trans ((heap_alloc_old wr (.cells #[.string lw,.int .i64 llo,.int .i64 lhi,.pointer (some ⟨R,k,none⟩)] 124) (Nat.lt_of_lt_of_le hb hwb)).trans (hb2.block b hb))⟩
     have ht9:w9.heap[wr.heap.size]? = some (.cells #[.string lw,.int .i64 llo,.int .i64 lhi,.pointer (some ⟨R,k,none⟩)] 124):=(hb9.block wr.heap.size (by simp)).trans (heap_alloc_new wr _)
     have hp9:w9.cell? ⟨wr.heap.size,3,none⟩=some (.pointer (some ⟨R,k,none⟩)):=by rw [cell_at ht9];rfl
     have hr9:=HL.out.2.1.below hb9'
     obtain ⟨_,_,_,_,_,_,_,_,c89,fz9⟩:=cells9 hr9.hR
     have cR9:=lim_cell hr9 hk7
     have c09:=lm_cell c0 hb9'
     have hadR:ad.block≠R:=fun e=>by
      have:=HL.out.2.2.2.1
      rw [e,HL.out.2.1.rR] at this
      cases this
     have hRM:M≠R:=fun e=>by
      have:=HL.out.2.1.rM
      rw [e,HL.out.2.1.rR] at this
      cases this
     have hmb:MapB (w9.setCell ⟨R,k,none⟩ (.int .i64 n)).drew M x.told:=hr9.hM.keep (by show (w9.setCell ⟨R,k,none⟩ (.int .i64 n)).heap[M]? = _;rw [setCell_heap,if_neg (by show M≠R;exact hRM)])
     obtain ⟨st,wa,wb,hme,hes,hm2,o1,o2,o3,o4,o5⟩:=run_entry hmb HL.out.2.2.2.2
     have HE:Aside (_ /\ _ /\ _ /\ _ /\ _ /\ _ /\ _ /\ _ /\ _):=⟨hm2,o1,o2,o3,o4,o5,hr9,hwn,hb9'⟩
     have fk9:=fz9 k
     clear hm2 o1 o2 o3 o4 o5 hr9 hwn hb9 ht9 hmb fz9 hb9'
     go_wp2
     go_simp
     go_region
     all_goals
      go_wp2
      go_ret
      obtain ⟨hm2,o1,o2,o3,o4,o5,hr9,hwn,hb9'⟩:=HE.out
      refine ⟨rfl,⟨o1.trans hb9'.os,o2.trans hb9'.tape,o3.trans hb9'.output,?_,fun b hb=>?_⟩,fun _=>⟨v,role,told_more hr9 hk7 hwn hm2 o5 (o4.trans (by simp [World.setCell]))⟩⟩
      ·rw [o4]
       have:=hb9'.size
       simpa [World.setCell,World.drew] using this
      ·have hl1:=HL.out.1
       have hl2:=(HL.out.2.1.lt R (by rw [HL.out.2.1.rR];intro e;cases e)).1
       have hl3:=(HL.out.2.1.lt M (by rw [HL.out.2.1.rM];intro e;cases e)).1
       rw [o5 b (by omega)]
       show (w9.setCell ⟨R,k,none⟩ (.int .i64 n)).heap[b]? = _
       rw [setCell_heap,if_neg (by show b≠R;omega)]
       exact hb9'.block b (by omega)
  ·obtain rfl:k=7:=by omega
   have hx:some (x,false)=some (x',e'):=by
    rw [<-HF.out,limAt_none HA.out]
   injection hx with hx
   obtain ⟨rfl,rfl⟩:=Prod.mk.inj hx
   clear HF
   go_wp2
   go_ret
   exact ⟨rfl,hb2.mono HL.out.1,fun e=>by cases e⟩
theorem lm_walk {T:Tab} (hf:Facts T) {lo:Nat} {w:World} {R M:Nat} {v:Value} {role:Nat->Role} {x:RSt} (h:RdAt lo w R M v role x) (hT:TabAt T w) (hlo:lo<=w.heap.size) {a:Option Addr} {n c:Nat} {ws:List ByteArray} (hn:ws.length=n) (hws:∀ i s,ws[i]? = some s -> ∃ ad,a=some ad /\ w.cell? (ad.add i)=some (.string s) /\ s.size<=maxLen) (hno:∀ ad,a=some ad->role ad.block=.no) {x':RSt} {e':Bool} (hF:limitsP x (ws.map bytesL)=some (x',e')) :
    Calls Tryz.prog 95 #[.pointer (some ⟨R,0,none⟩),.slice a n c] w fun e w'=>LmPost lo R M x' e' e w w':=by
  by_cases h2:n=2
  · subst h2
    match ws,hn,hws,hF with
    | [s0,s1],_,hws,hF=>
    obtain ⟨ad,rfl,c0,z0⟩:=hws 0 s0 rfl
    obtain ⟨_,e1,c1,z1⟩:=hws 1 s1 rfl
    injection e1 with e1
    subst e1
    have c0:w.cell? ad=some (.string s0):=by rw [lm_add_0] at c0;exact c0
    rw [lm_add_pos _ (by decide)] at c1
    have hF:cond (x.told.contains (bytesL s0)) (some (x,false)) (match limAt (bytesL s0) with
      | none=>some (x,false)
      | some k=>(F_conf_number (bytesL s1) (limLo k) (limHi k)).bind fun p=>some (({ x.setLim k p.1 with told:=x.told++[bytesL s0] }:RSt),p.2))=some (x',e'):=hF
    cases ht:x.told.contains (bytesL s0) with
    | true=>
      rw [ht] at hF
      injection hF with hF
      obtain ⟨rfl,rfl⟩:=Prod.mk.inj hF
      refine (lm_told h c0 ht).mono fun e w' ⟨q1,q2,q3⟩=>⟨q1,q2,q3⟩
    | false=>
      rw [ht,cond_false] at hF
      exact lm_two hf h hT hlo c0 c1 z1 (hno ad rfl) ht hF
  · have hF : some (x, false) = some (x', e') := by
      rw [<-hF]
      match ws,hn with
      | [],_=>rfl
      | [_],_=>rfl
      | [_,_],hn=>exact absurd hn.symm h2
      | _::_::_::_,_=>rfl
    injection hF with hF
    obtain ⟨rfl,rfl⟩:=Prod.mk.inj hF
    exact lm_few h2
theorem strs_of:∀ (l:List (List Int)) (cur:Array Value),(∀ (i:Nat) (y:List Int),l[i]? = some y -> ∃ t:ByteArray,cur[i]? = some (.string t) /\ bytesL t=y /\ t.size<=maxLen) -> ∃ ws:List ByteArray,ws.map bytesL=l /\ ∀ (i:Nat) (t:ByteArray),ws[i]? = some t->cur[i]? = some (.string t) /\ t.size<=maxLen:=by
 intro l cur h
 have key:∀ k,k<=l.length -> ∃ ws:List ByteArray,ws.map bytesL=l.take k /\ ∀ (i:Nat) (t:ByteArray),ws[i]? = some t->cur[i]? = some (.string t) /\ t.size<=maxLen:=by
  intro k
  induction k with
  | zero=>exact fun _=>⟨[],rfl,fun i t ht=>by simp at ht⟩
  | succ k ih=>
   intro hk
   obtain ⟨ws,h1,h2⟩:=ih (by omega)
   have hget:l[k]? = some l[k]:=List.getElem?_eq_getElem (by omega)
   obtain ⟨t,ht,ht2,ht3⟩:=h k _ hget
   have hl:ws.length=k:=by
    have:=congrArg List.length h1
    rw [List.length_map,List.length_take] at this
    omega
   refine ⟨ws++[t],?_,fun i u hu=>?_⟩
   ·rw [List.map_append,h1,List.take_add_one,hget,<- ht2];rfl
   ·rcases Nat.lt_or_ge i ws.length with hi | hi
    ·rw [List.getElem?_append_left hi] at hu
     exact h2 i u hu
    ·rw [List.getElem?_append_right hi] at hu
     have hi2:i=k:=by
      have:=(List.getElem?_eq_some_iff.1 hu).1
      simp at this
      omega
     subst hi2
     rw [hl,Nat.sub_self] at hu
     injection hu with hu
     subst hu
     exact ⟨ht,ht3⟩
 obtain ⟨ws,h1,h2⟩:=key l.length (Nat.le_refl _)
 exact ⟨ws,by rw [h1,List.take_length],h2⟩
theorem split_calls {T:Tab} (hf:Facts T) {W:World} (hT:TabAt T W) {s:ByteArray} (hs:s.size<=maxLen) (hz:Nat.ble (bytesL s).length 4000000000=true) :
  Calls Tryz.prog 94 #[.string s,.string ⟨#[32]⟩] W fun e W'=>∃ (B cap:Nat) (ws:List ByteArray),e=.returned (.slice (some ⟨B,0,none⟩) ws.length cap) /\ ws.map bytesL=splitI (bytesL s) 32 /\ W.heap.size<=B /\ B < W'.heap.size /\ ws.length<=cap /\ (∀ (i:Nat) (t:ByteArray),ws[i]? = some t->W'.cell? ⟨B,i,none⟩=some (.string t) /\ t.size<=maxLen) /\ Below W.heap.size W W':=by
 have h:F_strings_Split (bytesL s) [32]=some (splitI (bytesL s) 32):=by
  unfold F_strings_Split
  dsimp only
  rw [hz];rfl
 refine (fn_calls hT (s:=F_strings_Split_sig) (al:=[⟨false,flat .str (bytesL s),.string s⟩,⟨false,flat .str (bytesL ⟨#[32]⟩),.string ⟨#[32]⟩⟩]) (y:=(splitI (bytesL s) 32:List (List Int))) (F_strings_Split_sound hf.maxlen) rfl Tryz.func94
  (List.forall_mem_cons.2 ⟨str_ok hs,List.forall_mem_cons.2 ⟨str_ok (by decide),fun a h=>by cases h⟩⟩) (appF_c (appF_c (appF_n h)))).mono ?_
 obtain ⟨l,hl⟩:∃ l,splitI (bytesL s) 32=l:=⟨_,rfl⟩
 have hne:l≠[]:=by rw [<-hl];exact splitI_ne _ _
 rw [hl]
 rintro e W' ⟨us,g',st',rfl,h1,h2,h3,h4⟩
 have e2:(exitSt F_strings_Split_sig (l:List (List Int))).map (fun st=>(st.φ 0,st.O (.hd 0 0)))=some (.w false [.own (.hd 0 0) 9 .str l],true):=rfl
 rw [h2] at e2
 injection e2 with e2
 have q0:=h4 0
 rw [show st'.φ 0=_ from congrArg Prod.fst e2] at q0
 have hO:st'.O (.hd 0 0)=true:=congrArg Prod.snd e2
 obtain ⟨u,rfl⟩:∃ u,us=[u]:=by
  match us,h1 with
  | [u],_=>exact ⟨u,rfl⟩
 obtain ⟨cs,g1,g2⟩:=q0
 have g2:cs=[u]:=g2
 subst g2
 obtain ⟨c1,c2,g3,⟨hrd,hown⟩,g4⟩:=g1
 have g4:c2=[]:=g4
 subst g4
 rw [List.append_nil] at g3
 subst g3
 obtain ⟨v,hv,hOw⟩:=hown hO
 injection hv with hv
 subst hv
 rcases hOw with ⟨a,_,hnil,_⟩ | ⟨bl,cap,cur,hv2,hblk,hcell,hlc,hcm,hcs,hel,hC,hW⟩
 ·exact absurd hnil hne
 have hcs:cur.size=cap*1:=hcs
 have hlc:l.length<=cap:=hlc
 have hel2:∀ (i:Nat) (y:List Int),l[i]? = some y -> ∃ t:ByteArray,cur[i]? = some (.string t) /\ bytesL t=y /\ t.size<=maxLen:=fun i y hy=>by
  obtain ⟨t,ht,ht2,ht3⟩:=hel i y hy
  have hi:i < l.length:=(List.getElem?_eq_some_iff.1 hy).1
  have hic:i < cur.size:=by omega
  refine ⟨t,?_,ht2,ht3⟩
  rw [show (Ty.str).size=1 from rfl,Nat.mul_one,List.drop_eq_getElem_cons (by simpa using hic)] at ht
  simp only [List.take_succ_cons,List.take_zero,List.cons.injEq,and_true,Array.getElem_toList] at ht
  rw [Array.getElem?_eq_getElem hic,ht]
 obtain ⟨ws,hwl,hw2⟩:∃ ws:List ByteArray,ws.map bytesL=l /\ ∀ (i:Nat) (t:ByteArray),ws[i]? = some t->cur[i]? = some (.string t) /\ t.size<=maxLen:=strs_of l cur hel2
 have hwlen:ws.length=l.length:=by rw [<-hwl,List.length_map]
 refine ⟨bl,cap,ws,?_,hwl,?_,(Array.getElem?_eq_some_iff.1 hcell).1,by omega,fun i t ht=>?_,h3⟩
 ·show Ending.returned u=_
  rw [hv2,hwlen]
  rfl
 ·rcases hW _ (Nat.le_refl _) with h | h
  ·exact h
  ·exact h.elim
 ·obtain ⟨k1,k2⟩:=hw2 i t ht
  exact ⟨by rw [cell_at hcell];exact k1,k2⟩
def lbL:List Int:=[108,105,109,105,116]
def lbU:List Int:=[117,115,101,114]
def lbA:List Int:=[97,108,108,111,119]
def lbD:List Int:=[100,101,110,121]
theorem ln_lit (s:ByteArray) (l:List UInt8):(s.toList==l)=(bytesL s==l.map byteI):=by
 have h:=bytes_eq s ⟨l.toArray⟩
 have e:(⟨l.toArray⟩:ByteArray).toList=l:=by rw [toList_data]
 rw [e] at h
 exact h
noncomputable def lineW (x:RSt) (w0:List Int) (ws:List (List Int)):Option (RSt×Int):=
 cond (w0==lbL) ((limitsP x ws).map fun p=>(p.1,cond p.2 0 2)) (cond (w0==lbU) (userP x ws) (cond (w0==lbA) (ruleP x true ws) (cond (w0==lbD) (ruleP x false ws) (some (x,2)))))
noncomputable def lineP (x:RSt) (s:List Int):Option (RSt×Int):=cond (Nat.ble s.length 4000000000&&Nat.ble x.us.length 16) (match splitI s 32 with
 | []=>none
 | w0::ws=>lineW x w0 ws) none
theorem tail1 {w:World} {B:Nat} {s0:ByteArray} {ts:List ByteArray} (h:∀ (i:Nat) (t:ByteArray),(s0::ts)[i]? = some t->w.cell? ⟨B,i,none⟩=some (.string t) /\ t.size<=maxLen) :
  ∀ i t,ts[i]? = some t -> ∃ ad,some (⟨B,1,none⟩:Addr)=some ad /\ w.cell? (ad.add i)=some (.string t) /\ t.size<=maxLen:=fun i t ht=>by
 obtain ⟨h1,h2⟩:=h (i+1) t ht
 refine ⟨⟨B,1,none⟩,rfl,?_,h2⟩
 rw [add_at,Nat.add_comm]
 exact h1
theorem tail0 {w:World} {a:Option Addr} {ts:List ByteArray} (h:ts.length=0) :
  ∀ i t,ts[i]? = some t -> ∃ ad,a=some ad /\ w.cell? (ad.add i)=some (.string t) /\ t.size<=maxLen:=fun i t ht=>by
 have:=(List.getElem?_eq_some_iff.1 ht).1
 omega
theorem no_blk {role:Nat->Role} {B o:Nat} (h:role B=.no):∀ ad,some (⟨B,o,none⟩:Addr)=some ad->role ad.block=.no:=fun ad e=>by
 injection e with e
 rw [<-e];exact h
theorem ws_cons {ws:List ByteArray} {w0:List Int} {rest:List (List Int)} (h:ws.map bytesL=w0::rest):∃ s0 ts,ws=s0::ts /\ bytesL s0=w0 /\ ts.map bytesL=rest:=by
 cases ws with
 | nil=>cases h
 | cons s0 ts=>
  injection h with h1 h2
  exact ⟨s0,ts,rfl,h1,h2⟩
set_option maxHeartbeats 16000000 in
set_option maxRecDepth 1000000 in
theorem line_lim {T:Tab} (hf:Facts T) {lo:Nat} {w:World} {R M:Nat} {v:Value} {role:Nat->Role} {x:RSt} (h:RdAt lo w R M v role x) (hT:TabAt T w) (hlo:lo<=w.heap.size) (few:x.us.length<=16) {s:ByteArray} (hs:s.size<=maxLen) (hz:Nat.ble (bytesL s).length 4000000000=true) {w0:List Int} {rest:List (List Int)} (hspl:splitI (bytesL s) 32=w0::rest) (hk:(w0==([108,105,109,105,116]:List UInt8).map byteI)=true /\ True /\ True /\ True) {x':RSt} {b:Bool} (hF:limitsP x rest=some (x',b)) :
  Calls Tryz.prog 54 #[.pointer (some ⟨R,0,none⟩),.string s] w fun e w'=>RdPost lo R M x' (cond b 0 2) e w w':=by
 have hsp:=split_calls hf hT hs hz
 have HL:Aside (lo<=w.heap.size /\ RdAt lo w R M v role x /\ TabAt T w /\ x.us.length<=16):=⟨hlo,h,hT,few⟩
 have HS:Aside (splitI (bytesL s) 32=w0::rest):=hspl
 have HK:Aside ((w0==([108,105,109,105,116]:List UInt8).map byteI)=true /\ True /\ True /\ True):=hk
 clear hlo h hT few hz hspl hk
 have HF:Aside (limitsP x rest=some (x',b)):=hF
 clear hF
 go_enter Tryz.func54,Tryz.ntmps54
 go_wp2_with (first
  | (go_at_call 94;(refine hsp.mono ?_;rintro e w1 ⟨B,cap,ws,rfl,hwl,hB,hBl,hcap,hcell,hb1⟩;obtain ⟨s0,ts,rfl,hs0,hts⟩:=ws_cons (hwl.trans HS.out);have c10:w1.cell? ⟨B,0,none⟩=some (.string s0):=(hcell 0 s0 rfl).1;have hcap:ts.length+1<=cap:=hcap;have HW:Aside (RdAt lo w1 R M v role x /\ TabAt T w1 /\ lo<=w1.heap.size /\ (∀ i t,ts[i]? = some t -> ∃ ad,some (⟨B,1,none⟩:Addr)=some ad /\ w1.cell? (ad.add i)=some (.string t) /\ t.size<=maxLen) /\ role B=.no /\ ts.map bytesL=rest /\ Below lo w w1):=⟨HL.out.2.1.below hb1,HL.out.2.2.1.below hb1,Nat.le_trans HL.out.1 hb1.size,tail1 hcell,Classical.byContradiction (fun hr=>absurd (HL.out.2.1.lt B hr).2 (by omega)),hts,hb1.mono HL.out.1⟩;have e0:(s0.toList==[108,105,109,105,116])=true:=by { rw [ln_lit,hs0];exact HK.out.1 };clear hcell hwl hts hs0 hb1)))
 ·have hl:limitsP x (ts.map bytesL)=some (x',b):=by rw [HW.out.2.2.2.2.2.1];exact HF.out
  have ht0:ts.length=0:=by omega
  refine (lm_walk hf HW.out.1 HW.out.2.1 HW.out.2.2.1 (a:=some ⟨B,0,none⟩) (n:=ts.length) (c:=0) (ws:=ts) rfl (tail0 ht0) (no_blk HW.out.2.2.2.2.1) hl).mono ?_
  rintro e w2 ⟨rfl,hb2,h2⟩
  clear e0 hcap
  cases b with
  | true=>
   go_wp2
   go_ret
   exact ⟨rfl,HW.out.2.2.2.2.2.2.trans hb2,fun _=>h2 trivial⟩
  | false=>
   go_wp2
   go_ret
   exact ⟨rfl,HW.out.2.2.2.2.2.2.trans hb2,fun e=>by cases e⟩
 ·have hl:limitsP x (ts.map bytesL)=some (x',b):=by rw [HW.out.2.2.2.2.2.1];exact HF.out
  refine (lm_walk hf HW.out.1 HW.out.2.1 HW.out.2.2.1 (a:=some ⟨B,1,none⟩) (n:=ts.length) (c:=cap - 1) (ws:=ts) rfl HW.out.2.2.2.1 (no_blk HW.out.2.2.2.2.1) hl).mono ?_
  rintro e w2 ⟨rfl,hb2,h2⟩
  clear e0 hcap
  cases b with
  | true=>
   go_wp2
   go_ret
   exact ⟨rfl,HW.out.2.2.2.2.2.2.trans hb2,fun _=>h2 trivial⟩
  | false=>
   go_wp2
   go_ret
   exact ⟨rfl,HW.out.2.2.2.2.2.2.trans hb2,fun e=>by cases e⟩
set_option maxHeartbeats 16000000 in
set_option maxRecDepth 1000000 in
theorem line_user {T:Tab} (hf:Facts T) {lo:Nat} {w:World} {R M:Nat} {v:Value} {role:Nat->Role} {x:RSt} (h:RdAt lo w R M v role x) (hT:TabAt T w) (hlo:lo<=w.heap.size) (few:x.us.length<=16) {s:ByteArray} (hs:s.size<=maxLen) (hz:Nat.ble (bytesL s).length 4000000000=true) {w0:List Int} {rest:List (List Int)} (hspl:splitI (bytesL s) 32=w0::rest) (hk:(w0==([108,105,109,105,116]:List UInt8).map byteI)=false /\ (w0==([117,115,101,114]:List UInt8).map byteI)=true /\ True /\ True) {x':RSt} {e':Int} (hF:userP x rest=some (x',e')) :
  Calls Tryz.prog 54 #[.pointer (some ⟨R,0,none⟩),.string s] w fun e w'=>RdPost lo R M x' e' e w w':=by
 have hsp:=split_calls hf hT hs hz
 have HL:Aside (lo<=w.heap.size /\ RdAt lo w R M v role x /\ TabAt T w /\ x.us.length<=16):=⟨hlo,h,hT,few⟩
 have HS:Aside (splitI (bytesL s) 32=w0::rest):=hspl
 have HK:Aside ((w0==([108,105,109,105,116]:List UInt8).map byteI)=false /\ (w0==([117,115,101,114]:List UInt8).map byteI)=true /\ True /\ True):=hk
 clear hlo h hT few hz hspl hk
 have HF:Aside (userP x rest=some (x',e')):=hF
 clear hF
 go_enter Tryz.func54,Tryz.ntmps54
 go_wp2_with (go_at_call 94;(refine hsp.mono ?_;rintro e w1 ⟨B,cap,ws,rfl,hwl,hB,hBl,hcap,hcell,hb1⟩;obtain ⟨s0,ts,rfl,hs0,hts⟩:=ws_cons (hwl.trans HS.out);have c10:w1.cell? ⟨B,0,none⟩=some (.string s0):=(hcell 0 s0 rfl).1;have hcap:ts.length+1<=cap:=hcap;have HW:Aside (RdAt lo w1 R M v role x /\ TabAt T w1 /\ lo<=w1.heap.size /\ (∀ i t,ts[i]? = some t -> ∃ ad,some (⟨B,1,none⟩:Addr)=some ad /\ w1.cell? (ad.add i)=some (.string t) /\ t.size<=maxLen) /\ role B=.no /\ ts.map bytesL=rest /\ Below lo w w1):=⟨HL.out.2.1.below hb1,HL.out.2.2.1.below hb1,Nat.le_trans HL.out.1 hb1.size,tail1 hcell,Classical.byContradiction (fun hr=>absurd (HL.out.2.1.lt B hr).2 (by omega)),hts,hb1.mono HL.out.1⟩;have e0:(s0.toList==[108,105,109,105,116])=false:=by { rw [ln_lit,hs0];exact HK.out.1 };have e1:(s0.toList==[117,115,101,114])=true:=by { rw [ln_lit,hs0];exact HK.out.2.1 };clear hcell hwl hts hs0 hb1))
 ·have hl:userP x (ts.map bytesL)=some (x',e'):=by rw [HW.out.2.2.2.2.2.1];exact HF.out
  have ht0:ts.length=0:=by omega
  refine (user_walk hf HW.out.1 HW.out.2.1 HW.out.2.2.1 HL.out.2.2.2 (a:=some ⟨B,0,none⟩) (n:=ts.length) (c:=0) (ws:=ts) rfl (tail0 ht0) hl).mono ?_
  rintro e w2 ⟨rfl,hb2,h2⟩
  have H2:Aside (_ /\ _):=⟨hb2,h2⟩
  clear e0 e1 hcap hb2 h2
  go_wp2
  go_ret
  exact ⟨rfl,HW.out.2.2.2.2.2.2.trans H2.out.1,H2.out.2⟩
 ·have hl:userP x (ts.map bytesL)=some (x',e'):=by rw [HW.out.2.2.2.2.2.1];exact HF.out
  refine (user_walk hf HW.out.1 HW.out.2.1 HW.out.2.2.1 HL.out.2.2.2 (a:=some ⟨B,1,none⟩) (n:=ts.length) (c:=cap - 1) (ws:=ts) rfl HW.out.2.2.2.1 hl).mono ?_
  rintro e w2 ⟨rfl,hb2,h2⟩
  have H2:Aside (_ /\ _):=⟨hb2,h2⟩
  clear e0 e1 hcap hb2 h2
  go_wp2
  go_ret
  exact ⟨rfl,HW.out.2.2.2.2.2.2.trans H2.out.1,H2.out.2⟩
set_option maxHeartbeats 16000000 in
set_option maxRecDepth 1000000 in
theorem line_none {T:Tab} (hf:Facts T) {lo:Nat} {w:World} {R M:Nat} {v:Value} {role:Nat->Role} {x:RSt} (h:RdAt lo w R M v role x) (hT:TabAt T w) (hlo:lo<=w.heap.size) (few:x.us.length<=16) {s:ByteArray} (hs:s.size<=maxLen) (hz:Nat.ble (bytesL s).length 4000000000=true) {w0:List Int} {rest:List (List Int)} (hspl:splitI (bytesL s) 32=w0::rest) (hk:(w0==([108,105,109,105,116]:List UInt8).map byteI)=false /\ (w0==([117,115,101,114]:List UInt8).map byteI)=false /\ (w0==([97,108,108,111,119]:List UInt8).map byteI)=false /\ (w0==([100,101,110,121]:List UInt8).map byteI)=false) :
  Calls Tryz.prog 54 #[.pointer (some ⟨R,0,none⟩),.string s] w fun e w'=>RdPost lo R M x 2 e w w':=by
 have hsp:=split_calls hf hT hs hz
 have HL:Aside (lo<=w.heap.size /\ RdAt lo w R M v role x /\ TabAt T w /\ x.us.length<=16):=⟨hlo,h,hT,few⟩
 have HS:Aside (splitI (bytesL s) 32=w0::rest):=hspl
 have HK:Aside ((w0==([108,105,109,105,116]:List UInt8).map byteI)=false /\ (w0==([117,115,101,114]:List UInt8).map byteI)=false /\ (w0==([97,108,108,111,119]:List UInt8).map byteI)=false /\ (w0==([100,101,110,121]:List UInt8).map byteI)=false):=hk
 clear hlo h hT few hz hspl hk
 go_enter Tryz.func54,Tryz.ntmps54
 go_wp2_with (go_at_call 94;(refine hsp.mono ?_;rintro e w1 ⟨B,cap,ws,rfl,hwl,hB,hBl,hcap,hcell,hb1⟩;obtain ⟨s0,ts,rfl,hs0,hts⟩:=ws_cons (hwl.trans HS.out);have c10:w1.cell? ⟨B,0,none⟩=some (.string s0):=(hcell 0 s0 rfl).1;have hcap:ts.length+1<=cap:=hcap;have HW:Aside (RdAt lo w1 R M v role x /\ TabAt T w1 /\ lo<=w1.heap.size /\ (∀ i t,ts[i]? = some t -> ∃ ad,some (⟨B,1,none⟩:Addr)=some ad /\ w1.cell? (ad.add i)=some (.string t) /\ t.size<=maxLen) /\ role B=.no /\ ts.map bytesL=rest /\ Below lo w w1):=⟨HL.out.2.1.below hb1,HL.out.2.2.1.below hb1,Nat.le_trans HL.out.1 hb1.size,tail1 hcell,Classical.byContradiction (fun hr=>absurd (HL.out.2.1.lt B hr).2 (by omega)),hts,hb1.mono HL.out.1⟩;have e0:(s0.toList==[108,105,109,105,116])=false:=by { rw [ln_lit,hs0];exact HK.out.1 };have e1:(s0.toList==[117,115,101,114])=false:=by { rw [ln_lit,hs0];exact HK.out.2.1 };have e2:(s0.toList==[97,108,108,111,119])=false:=by { rw [ln_lit,hs0];exact HK.out.2.2.1 };have e3:(s0.toList==[100,101,110,121])=false:=by { rw [ln_lit,hs0];exact HK.out.2.2.2 };clear hcell hwl hts hs0 hb1))
 go_ret
 exact ⟨rfl,HW.out.2.2.2.2.2.2,fun e=>by cases e⟩
set_option maxHeartbeats 16000000 in
set_option maxRecDepth 1000000 in
theorem line_allow {T:Tab} (hf:Facts T) {lo:Nat} {w:World} {R M:Nat} {v:Value} {role:Nat->Role} {x:RSt} (h:RdAt lo w R M v role x) (hT:TabAt T w) (hlo:lo<=w.heap.size) (few:x.us.length<=16) {s:ByteArray} (hs:s.size<=maxLen) (hz:Nat.ble (bytesL s).length 4000000000=true) {w0:List Int} {rest:List (List Int)} (hspl:splitI (bytesL s) 32=w0::rest) (hk:(w0==([108,105,109,105,116]:List UInt8).map byteI)=false /\ (w0==([117,115,101,114]:List UInt8).map byteI)=false /\ (w0==([97,108,108,111,119]:List UInt8).map byteI)=true /\ True) {x':RSt} {e':Int} (hF:ruleP x true rest=some (x',e')) :
  Calls Tryz.prog 54 #[.pointer (some ⟨R,0,none⟩),.string s] w fun e w'=>RdPost lo R M x' e' e w w':=by
 have hsp:=split_calls hf hT hs hz
 have HL:Aside (lo<=w.heap.size /\ RdAt lo w R M v role x /\ TabAt T w /\ x.us.length<=16):=⟨hlo,h,hT,few⟩
 have HS:Aside (splitI (bytesL s) 32=w0::rest):=hspl
 have HK:Aside ((w0==([108,105,109,105,116]:List UInt8).map byteI)=false /\ (w0==([117,115,101,114]:List UInt8).map byteI)=false /\ (w0==([97,108,108,111,119]:List UInt8).map byteI)=true /\ True):=hk
 clear hlo h hT few hz hspl hk
 have HF:Aside (ruleP x true rest=some (x',e')):=hF
 clear hF
 go_enter Tryz.func54,Tryz.ntmps54
 go_wp2_with (go_at_call 94;(refine hsp.mono ?_;rintro e w1 ⟨B,cap,ws,rfl,hwl,hB,hBl,hcap,hcell,hb1⟩;obtain ⟨s0,ts,rfl,hs0,hts⟩:=ws_cons (hwl.trans HS.out);have c10:w1.cell? ⟨B,0,none⟩=some (.string s0):=(hcell 0 s0 rfl).1;have hcap:ts.length+1<=cap:=hcap;have HW:Aside (RdAt lo w1 R M v role x /\ TabAt T w1 /\ lo<=w1.heap.size /\ (∀ i t,ts[i]? = some t -> ∃ ad,some (⟨B,1,none⟩:Addr)=some ad /\ w1.cell? (ad.add i)=some (.string t) /\ t.size<=maxLen) /\ role B=.no /\ ts.map bytesL=rest /\ Below lo w w1):=⟨HL.out.2.1.below hb1,HL.out.2.2.1.below hb1,Nat.le_trans HL.out.1 hb1.size,tail1 hcell,Classical.byContradiction (fun hr=>absurd (HL.out.2.1.lt B hr).2 (by omega)),hts,hb1.mono HL.out.1⟩;have e0:(s0.toList==[108,105,109,105,116])=false:=by { rw [ln_lit,hs0];exact HK.out.1 };have e1:(s0.toList==[117,115,101,114])=false:=by { rw [ln_lit,hs0];exact HK.out.2.1 };have e2:(s0.toList==[97,108,108,111,119])=true:=by { rw [ln_lit,hs0];exact HK.out.2.2.1 };clear hcell hwl hts hs0 hb1))
 have hl:ruleP x true (ts.map bytesL)=some (x',e'):=by rw [HW.out.2.2.2.2.2.1];exact HF.out
 have hRz:RdAt lo w1.drew R M v role x:=HW.out.1.keep (fun b _=>rfl) (Nat.le_refl _)
 have hTz:TabAt T w1.drew:=fun p hp=>HW.out.2.1 p hp
 by_cases hc1:cap=1
 ·subst hc1
  have ht0:ts.length=0:=by omega
  have HR:Aside (Calls Tryz.prog 97 #[.pointer (some ⟨R,0,none⟩),.bool true,.slice (some ⟨B,0,none⟩) 0 0] w1.drew fun e w'=>RdPost lo R M x' e' e w1.drew w'):=rule_walk hf hRz hTz HW.out.2.2.1 HL.out.2.2.2 ht0 (tail0 ht0) hl
  clear hRz hTz hl
  go_region_with (go_at_call 97;(refine HR.out.mono ?_;rintro e w2 ⟨rfl,hb2,h2⟩;have H2:Aside (_ /\ _):=⟨hb2,h2⟩;clear hb2 h2))
  all_goals
   go_wp2
   go_ret
   exact ⟨rfl,HW.out.2.2.2.2.2.2.trans ⟨H2.out.1.os,H2.out.1.tape,H2.out.1.output,H2.out.1.size,H2.out.1.block⟩,H2.out.2⟩
 ·have ht1:∀ i t,ts[i]? = some t -> ∃ ad,some (⟨B,1,none⟩:Addr)=some ad /\ w1.drew.cell? (ad.add i)=some (.string t) /\ t.size<=maxLen:=HW.out.2.2.2.1
  have HR:Aside (Calls Tryz.prog 97 #[.pointer (some ⟨R,0,none⟩),.bool true,.slice (some ⟨B,1,none⟩) ts.length (cap - 1)] w1.drew fun e w'=>RdPost lo R M x' e' e w1.drew w'):=rule_walk hf hRz hTz HW.out.2.2.1 HL.out.2.2.2 rfl ht1 hl
  clear hRz hTz hl ht1
  go_region_with (go_at_call 97;(refine HR.out.mono ?_;rintro e w2 ⟨rfl,hb2,h2⟩;have H2:Aside (_ /\ _):=⟨hb2,h2⟩;clear hb2 h2))
  all_goals
   go_wp2
   go_ret
   exact ⟨rfl,HW.out.2.2.2.2.2.2.trans ⟨H2.out.1.os,H2.out.1.tape,H2.out.1.output,H2.out.1.size,H2.out.1.block⟩,H2.out.2⟩
set_option maxHeartbeats 16000000 in
set_option maxRecDepth 1000000 in
theorem line_deny {T:Tab} (hf:Facts T) {lo:Nat} {w:World} {R M:Nat} {v:Value} {role:Nat->Role} {x:RSt} (h:RdAt lo w R M v role x) (hT:TabAt T w) (hlo:lo<=w.heap.size) (few:x.us.length<=16) {s:ByteArray} (hs:s.size<=maxLen) (hz:Nat.ble (bytesL s).length 4000000000=true) {w0:List Int} {rest:List (List Int)} (hspl:splitI (bytesL s) 32=w0::rest) (hk:(w0==([108,105,109,105,116]:List UInt8).map byteI)=false /\ (w0==([117,115,101,114]:List UInt8).map byteI)=false /\ (w0==([97,108,108,111,119]:List UInt8).map byteI)=false /\ (w0==([100,101,110,121]:List UInt8).map byteI)=true) {x':RSt} {e':Int} (hF:ruleP x false rest=some (x',e')) :
  Calls Tryz.prog 54 #[.pointer (some ⟨R,0,none⟩),.string s] w fun e w'=>RdPost lo R M x' e' e w w':=by
 have hsp:=split_calls hf hT hs hz
 have HL:Aside (lo<=w.heap.size /\ RdAt lo w R M v role x /\ TabAt T w /\ x.us.length<=16):=⟨hlo,h,hT,few⟩
 have HS:Aside (splitI (bytesL s) 32=w0::rest):=hspl
 have HK:Aside ((w0==([108,105,109,105,116]:List UInt8).map byteI)=false /\ (w0==([117,115,101,114]:List UInt8).map byteI)=false /\ (w0==([97,108,108,111,119]:List UInt8).map byteI)=false /\ (w0==([100,101,110,121]:List UInt8).map byteI)=true):=hk
 clear hlo h hT few hz hspl hk
 have HF:Aside (ruleP x false rest=some (x',e')):=hF
 clear hF
 go_enter Tryz.func54,Tryz.ntmps54
 go_wp2_with (go_at_call 94;(refine hsp.mono ?_;rintro e w1 ⟨B,cap,ws,rfl,hwl,hB,hBl,hcap,hcell,hb1⟩;obtain ⟨s0,ts,rfl,hs0,hts⟩:=ws_cons (hwl.trans HS.out);have c10:w1.cell? ⟨B,0,none⟩=some (.string s0):=(hcell 0 s0 rfl).1;have hcap:ts.length+1<=cap:=hcap;have HW:Aside (RdAt lo w1 R M v role x /\ TabAt T w1 /\ lo<=w1.heap.size /\ (∀ i t,ts[i]? = some t -> ∃ ad,some (⟨B,1,none⟩:Addr)=some ad /\ w1.cell? (ad.add i)=some (.string t) /\ t.size<=maxLen) /\ role B=.no /\ ts.map bytesL=rest /\ Below lo w w1):=⟨HL.out.2.1.below hb1,HL.out.2.2.1.below hb1,Nat.le_trans HL.out.1 hb1.size,tail1 hcell,Classical.byContradiction (fun hr=>absurd (HL.out.2.1.lt B hr).2 (by omega)),hts,hb1.mono HL.out.1⟩;have e0:(s0.toList==[108,105,109,105,116])=false:=by { rw [ln_lit,hs0];exact HK.out.1 };have e1:(s0.toList==[117,115,101,114])=false:=by { rw [ln_lit,hs0];exact HK.out.2.1 };have e2:(s0.toList==[97,108,108,111,119])=false:=by { rw [ln_lit,hs0];exact HK.out.2.2.1 };have e3:(s0.toList==[100,101,110,121])=true:=by { rw [ln_lit,hs0];exact HK.out.2.2.2 };clear hcell hwl hts hs0 hb1))
 have hl:ruleP x false (ts.map bytesL)=some (x',e'):=by rw [HW.out.2.2.2.2.2.1];exact HF.out
 have hRz:RdAt lo w1.drew R M v role x:=HW.out.1.keep (fun b _=>rfl) (Nat.le_refl _)
 have hTz:TabAt T w1.drew:=fun p hp=>HW.out.2.1 p hp
 by_cases hc1:cap=1
 ·subst hc1
  have ht0:ts.length=0:=by omega
  have HR:Aside (Calls Tryz.prog 97 #[.pointer (some ⟨R,0,none⟩),.bool false,.slice (some ⟨B,0,none⟩) 0 0] w1.drew fun e w'=>RdPost lo R M x' e' e w1.drew w'):=rule_walk hf hRz hTz HW.out.2.2.1 HL.out.2.2.2 ht0 (tail0 ht0) hl
  clear hRz hTz hl
  go_region_with (go_at_call 97;(refine HR.out.mono ?_;rintro e w2 ⟨rfl,hb2,h2⟩;have H2:Aside (_ /\ _):=⟨hb2,h2⟩;clear hb2 h2))
  all_goals
   go_wp2
   go_ret
   exact ⟨rfl,HW.out.2.2.2.2.2.2.trans ⟨H2.out.1.os,H2.out.1.tape,H2.out.1.output,H2.out.1.size,H2.out.1.block⟩,H2.out.2⟩
 ·have ht1:∀ i t,ts[i]? = some t -> ∃ ad,some (⟨B,1,none⟩:Addr)=some ad /\ w1.drew.cell? (ad.add i)=some (.string t) /\ t.size<=maxLen:=HW.out.2.2.2.1
  have HR:Aside (Calls Tryz.prog 97 #[.pointer (some ⟨R,0,none⟩),.bool false,.slice (some ⟨B,1,none⟩) ts.length (cap - 1)] w1.drew fun e w'=>RdPost lo R M x' e' e w1.drew w'):=rule_walk hf hRz hTz HW.out.2.2.1 HL.out.2.2.2 rfl ht1 hl
  clear hRz hTz hl ht1
  go_region_with (go_at_call 97;(refine HR.out.mono ?_;rintro e w2 ⟨rfl,hb2,h2⟩;have H2:Aside (_ /\ _):=⟨hb2,h2⟩;clear hb2 h2))
  all_goals
   go_wp2
   go_ret
   exact ⟨rfl,HW.out.2.2.2.2.2.2.trans ⟨H2.out.1.os,H2.out.1.tape,H2.out.1.output,H2.out.1.size,H2.out.1.block⟩,H2.out.2⟩
end Go.Proofs.YtgfmfgombmpodaaGreatDoor
namespace Go.Proofs.YtgfmfgombmpodaaGreatDoor
open Go.RowKit Go.Lib Pv
set_option linter.unusedVariables false
theorem sizeC:sizeT Tryz.prog 51=some 8:=by kernel_rfl
theorem agC:isAg Tryz.prog 51=true:=by kernel_rfl
theorem conf_ret {w:World} {R:Nat} {v0 v1 v2 v3 v4 v5 v6 v7 v:Value} {T:TypeId} {a:Act} {Z:Ending->World->Prop} (hd:a.defers=[]) (h2:a.tmps.getD 2 undef=.pointer (some ⟨R,0,none⟩)) (h3:a.tmps.getD 3 undef=v)
  (hR:w.heap[R]? = some (.cells #[v0,v1,v2,v3,v4,v5,v6,v7] T (0,0)))
  (hZ:Z (.returned (.tuple #[.agg #[v0,v1,v2,v3,v4,v5,v6,v7],v])) w):bodyPost Tryz.prog Tryz.f27 Z .ret a w:=by
 have hl:=run_loadVar_cells (P:=Tryz.prog) (w:=w) (t:=51) (ad:=⟨R,0,none⟩) (us:=[v0,v1,v2,v3,v4,v5,v6,v7]) sizeC rfl agC (fun j x hj=>by
  show w.cell? ((⟨R,0,none⟩:Addr).add j)=_
  have e:(⟨R,0,none⟩:Addr).add j=⟨R,j,none⟩:=by unfold Addr.add;simp;omega
  rw [e,Lib.cell_of_heap hR]
  rw [<-hj];simp)
 refine bodyPost_ret ?_ hd hZ
 rw [results_cell_tmp (p:=2) (u:=3) (ty:=51) rfl,h2,h3]
 simp [asAddr,hl]
theorem four (w:World) {W':World} (o1 o2 o3 o4:Obj) (h:(((w.alloc o1).alloc o2).alloc o3).alloc o4=W'):Below w.heap.size w W' /\ W'.heap[w.heap.size]? = some o1:=by
 have sz:∀ (w:World) (o:Obj),(w.alloc o).heap.size=w.heap.size+1:=fun w o=>by simp
 rw [<-h]
 refine ⟨((((Below.refl _ w).alloc (Nat.le_refl _) _).alloc (by rw [sz];omega) _).alloc (by rw [sz,sz];omega) _).alloc (by rw [sz,sz,sz];omega) _,?_⟩
 rw [Lib.alloc_old _ _ _ (by rw [sz,sz,sz];omega),Lib.alloc_old _ _ _ (by rw [sz,sz];omega),Lib.alloc_old _ _ _ (by rw [sz];omega)]
 rw [show (w.alloc o1).heap=w.heap.push o1 from rfl]
 simp
def confW (w:World):World:=((((w.alloc (Obj.cells #[Value.int IntKind.i64 0,Value.int IntKind.i64 0,Value.int IntKind.i64 0,Value.int IntKind.i64 0,Value.int IntKind.i64 0,Value.int IntKind.i64 0,Value.int IntKind.i64 0,Value.slice none 0 0] 51)).alloc (Obj.cells #[Value.int IntKind.i64 16,Value.int IntKind.i64 100,Value.int IntKind.i64 65535,Value.int IntKind.i64 1000,Value.int IntKind.i64 1000000,Value.int IntKind.i64 1000,Value.int IntKind.i64 16384,Value.slice none 0 0] 51)).alloc (Obj.map #[] 0)).alloc (Obj.cells #[Value.int IntKind.i64 16,Value.int IntKind.i64 100,Value.int IntKind.i64 65535,Value.int IntKind.i64 1000,Value.int IntKind.i64 1000000,Value.int IntKind.i64 1000,Value.int IntKind.i64 16384,Value.slice none 0 0,Value.map (some (w.heap.size+1+1))] 110))
end Go.Proofs.YtgfmfgombmpodaaGreatDoor
namespace Go.Proofs.YtgfmfgombmpodaaGreatDoor
open Go.RowKit Pv
set_option linter.unusedVariables false
theorem line_walk {T:Tab} (hf:Facts T) {lo:Nat} {w:World} {R M:Nat} {v:Value} {role:Nat->Role} {x:RSt} (h:RdAt lo w R M v role x) (hT:TabAt T w) (hlo:lo<=w.heap.size) {s:ByteArray} (hs:s.size<=maxLen) {x':RSt} {e':Int} (hF:lineP x (bytesL s)=some (x',e')) :
  Calls Tryz.prog 54 #[.pointer (some ⟨R,0,none⟩),.string s] w fun e w'=>RdPost lo R M x' e' e w w':=by
 unfold lineP at hF
 cases hz:(Nat.ble (bytesL s).length 4000000000&&Nat.ble x.us.length 16) with
 | false=>rw [hz] at hF;cases hF
 | true=>
 rw [hz,cond_true] at hF
 rw [Bool.and_eq_true] at hz
 have few:=Nat.le_of_ble_eq_true hz.2
 cases hsp:splitI (bytesL s) 32 with
 | nil=>exact absurd hsp (splitI_ne _ _)
 | cons w0 rest=>
 rw [hsp] at hF
 have hF:lineW x w0 rest=some (x',e'):=hF
 unfold lineW at hF
 cases h1:w0==lbL with
 | true=>
  rw [h1] at hF
  obtain ⟨⟨y,b⟩,h2,h3⟩:=Option.map_eq_some_iff.1 hF
  obtain ⟨rfl,rfl⟩:=Prod.mk.inj h3
  exact line_lim hf h hT hlo few hs hz.1 hsp ⟨h1,trivial,trivial,trivial⟩ h2
 | false=>
 rw [h1,cond_false] at hF
 cases h2:w0==lbU with
 | true=>
  rw [h2] at hF
  exact line_user hf h hT hlo few hs hz.1 hsp ⟨h1,h2,trivial,trivial⟩ hF
 | false=>
 rw [h2,cond_false] at hF
 cases h3:w0==lbA with
 | true=>
  rw [h3] at hF
  exact line_allow hf h hT hlo few hs hz.1 hsp ⟨h1,h2,h3,trivial⟩ hF
 | false=>
 rw [h3,cond_false] at hF
 cases h4:w0==lbD with
 | true=>
  rw [h4] at hF
  exact line_deny hf h hT hlo few hs hz.1 hsp ⟨h1,h2,h3,h4⟩ hF
 | false=>
 rw [h4,cond_false] at hF
 injection hF with hF
 obtain ⟨rfl,rfl⟩:=Prod.mk.inj hF
 exact line_none hf h hT hlo few hs hz.1 hsp ⟨h1,h2,h3,h4⟩
def rst0:RSt:=⟨16,100,65535,1000,1000000,1000,16384,[],[]⟩
def skipL (s:List Int):Bool:=List.isEmpty s||(s.headD 0==35)
noncomputable def parseL:List (List Int)->RSt->Option (RSt×Int)
 | [],x=>some (x,0)
 | s::r,x=>cond (skipL s) (parseL r x) ((lineP x s).bind fun p=>cond (decide (p.2=0)) (parseL r p.1) (some p))
theorem start_rd (w:World):RdAt (w.heap.size+1) (confW w) (w.heap.size+1+1+1) (w.heap.size+1+1) (.slice none 0 0) (fun b=>if b=w.heap.size+1+1+1 then .rdr else if b=w.heap.size+1+1 then .map else .no) rst0:=by
  have sz:∀ (w:World) (o:Obj),(w.alloc o).heap.size=w.heap.size+1:=fun w o=>by simp
  refine ⟨?_,if_pos rfl,⟨#[],0,?_,fun e he=>by simp at he,[],rfl,rfl⟩,?_,⟨[],World.ownsRow_nil _ _ _ _,fun b hb=>(by cases hb),fun i u hu=>(by simp [rst0] at hu)⟩,fun b hb=>?_,fun c hc=>?_⟩
  · unfold confW
    have:=heap_alloc_new ((((w.alloc (Obj.cells #[Value.int IntKind.i64 0,Value.int IntKind.i64 0,Value.int IntKind.i64 0,Value.int IntKind.i64 0,Value.int IntKind.i64 0,Value.int IntKind.i64 0,Value.int IntKind.i64 0,Value.slice none 0 0] 51)).alloc (Obj.cells #[Value.int IntKind.i64 16,Value.int IntKind.i64 100,Value.int IntKind.i64 65535,Value.int IntKind.i64 1000,Value.int IntKind.i64 1000000,Value.int IntKind.i64 1000,Value.int IntKind.i64 16384,Value.slice none 0 0] 51)).alloc (Obj.map #[] 0))) (Obj.cells #[Value.int IntKind.i64 16,Value.int IntKind.i64 100,Value.int IntKind.i64 65535,Value.int IntKind.i64 1000,Value.int IntKind.i64 1000000,Value.int IntKind.i64 1000,Value.int IntKind.i64 16384,Value.slice none 0 0,Value.map (some (w.heap.size+1+1))] 110)
    rw [sz,sz,sz] at this
    exact this
  · unfold confW
    rw [heap_alloc_old _ _ (by rw [sz,sz,sz];omega)]
    have:=heap_alloc_new ((w.alloc (Obj.cells #[Value.int IntKind.i64 0,Value.int IntKind.i64 0,Value.int IntKind.i64 0,Value.int IntKind.i64 0,Value.int IntKind.i64 0,Value.int IntKind.i64 0,Value.int IntKind.i64 0,Value.slice none 0 0] 51)).alloc (Obj.cells #[Value.int IntKind.i64 16,Value.int IntKind.i64 100,Value.int IntKind.i64 65535,Value.int IntKind.i64 1000,Value.int IntKind.i64 1000000,Value.int IntKind.i64 1000,Value.int IntKind.i64 16384,Value.slice none 0 0] 51)) (Obj.map #[] 0)
    rw [sz,sz] at this
    exact this
  · show (if w.heap.size+1+1=w.heap.size+1+1+1 then Role.rdr else if w.heap.size+1+1=w.heap.size+1+1 then .map else .no)=.map
    rw [if_neg (by omega),if_pos rfl]
  · have hs : (confW w).heap.size = w.heap.size + 1 + 1 + 1 + 1 := by
      unfold confW
      rw [sz,sz,sz,sz]
    rw [hs]
    by_cases h1:b=w.heap.size+1+1+1
    · omega
    · by_cases h2:b=w.heap.size+1+1
      · omega
      · exfalso
        apply hb
        show (if b=_ then Role.rdr else if b=_ then .map else .no)=.no
        rw [if_neg h1,if_neg h2]
  · simp [RSt.ints,rst0] at hc
    rcases hc with rfl | rfl | rfl | rfl | rfl | rfl | rfl <;> decide
theorem cells8 {w:World} {b:Nat} {v0 v1 v2 v3 v4 v5 v6 v7:Value} {T:TypeId} (h:w.heap[b]? = some (.cells #[v0,v1,v2,v3,v4,v5,v6,v7] T (0,0))):w.cell? ⟨b,0,none⟩=some v0 /\ w.cell? ⟨b,1,none⟩=some v1 /\ w.cell? ⟨b,2,none⟩=some v2 /\ w.cell? ⟨b,3,none⟩=some v3 /\ w.cell? ⟨b,4,none⟩=some v4 /\ w.cell? ⟨b,5,none⟩=some v5 /\ w.cell? ⟨b,6,none⟩=some v6 /\ w.cell? ⟨b,7,none⟩=some v7 /\
  w.frozen? ⟨b,0,none⟩=false /\ w.frozen? ⟨b,1,none⟩=false /\ w.frozen? ⟨b,2,none⟩=false /\ w.frozen? ⟨b,3,none⟩=false /\ w.frozen? ⟨b,4,none⟩=false /\ w.frozen? ⟨b,5,none⟩=false /\ w.frozen? ⟨b,6,none⟩=false /\ w.frozen? ⟨b,7,none⟩=false:=by
 refine ⟨?_,?_,?_,?_,?_,?_,?_,?_,?_,?_,?_,?_,?_,?_,?_,?_⟩ <;> first | (rw [cell_at h];rfl) | simp [World.frozen?,h]
def ParPost (w:World) (xf:RSt) (ef:Int) (e:Ending) (w':World):Prop:=Below w.heap.size w w' /\ (ef≠0->e=.returned (.tuple #[.agg #[.int .i64 0,.int .i64 0,.int .i64 0,.int .i64 0,.int .i64 0,.int .i64 0,.int .i64 0,.slice none 0 0],.int .i64 ef])) /\
 (ef=0 -> ∃ v role,e=.returned (.tuple #[.agg #[.int .i64 xf.c0,.int .i64 xf.c1,.int .i64 xf.c2,.int .i64 xf.c3,.int .i64 xf.c4,.int .i64 xf.c5,.int .i64 xf.c6,v],.int .i64 0]) /\ RdAt (w.heap.size+1) w' (w.heap.size+1+1+1) (w.heap.size+1+1) v role xf)
set_option maxHeartbeats 4000000 in
theorem set8 {w W:World} {b:Nat} {u0 u1 u2 u3 u4 u5 u6 u7 v0 v1 v2 v3 v4 v5 v6 v7:Value} {T:TypeId} (h:w.heap[b]? = some (.cells #[u0,u1,u2,u3,u4,u5,u6,u7] T (0,0))) (hW:((((((((w.setCell ⟨b,0,none⟩ v0).setCell ⟨b,1,none⟩ v1).setCell ⟨b,2,none⟩ v2).setCell ⟨b,3,none⟩ v3).setCell ⟨b,4,none⟩ v4).setCell ⟨b,5,none⟩ v5).setCell ⟨b,6,none⟩ v6).setCell ⟨b,7,none⟩ v7)=W) :
  W.heap[b]? = some (.cells #[v0,v1,v2,v3,v4,v5,v6,v7] T (0,0)) /\ (∀ k,k≠b->W.heap[k]? = w.heap[k]?) /\ W.heap.size=w.heap.size /\ W.os=w.os /\ W.tape=w.tape /\ W.output=w.output:=by
 have hsz:∀ (w:World) (a:Addr) (u:Value),(w.setCell a u).heap.size=w.heap.size:=fun w a u=>by simp [World.setCell]
 have hos:∀ (w:World) (a:Addr) (u:Value),(w.setCell a u).os=w.os /\ (w.setCell a u).tape=w.tape /\ (w.setCell a u).output=w.output:=fun w a u=>⟨rfl,rfl,rfl⟩
 subst hW
 refine ⟨?_,fun k hk=>?_,by rw [hsz,hsz,hsz,hsz,hsz,hsz,hsz,hsz],by rw [(hos _ _ _).1,(hos _ _ _).1,(hos _ _ _).1,(hos _ _ _).1,(hos _ _ _).1,(hos _ _ _).1,(hos _ _ _).1,(hos _ _ _).1],by rw [(hos _ _ _).2.1,(hos _ _ _).2.1,(hos _ _ _).2.1,(hos _ _ _).2.1,(hos _ _ _).2.1,(hos _ _ _).2.1,(hos _ _ _).2.1,(hos _ _ _).2.1],by rw [(hos _ _ _).2.2,(hos _ _ _).2.2,(hos _ _ _).2.2,(hos _ _ _).2.2,(hos _ _ _).2.2,(hos _ _ _).2.2,(hos _ _ _).2.2,(hos _ _ _).2.2]⟩
 ·rw [set_heap (set_heap (set_heap (set_heap (set_heap (set_heap (set_heap (set_heap h)))))))]
  rfl
 ·rw [setCell_heap,if_neg hk,setCell_heap,if_neg hk,setCell_heap,if_neg hk,setCell_heap,if_neg hk,setCell_heap,if_neg hk,setCell_heap,if_neg hk,setCell_heap,if_neg hk,setCell_heap,if_neg hk]
theorem below_set {w wr W:World} (hb:Below w.heap.size w wr) (h1:∀ k,k≠w.heap.size->W.heap[k]? = wr.heap[k]?) (h2:W.heap.size=wr.heap.size) (h3:W.os=wr.os /\ W.tape=wr.tape /\ W.output=wr.output):Below w.heap.size w W:=
 ⟨h3.1.trans hb.os,h3.2.1.trans hb.tape,h3.2.2.trans hb.output,by rw [h2];exact hb.size,fun k hk=>(h1 k (by omega)).trans (hb.block k hk)⟩
theorem rd_slice {lo:Nat} {w:World} {R M:Nat} {v:Value} {role:Nat->Role} {x:RSt} (h:RdAt lo w R M v role x):∃ a n c,v=.slice a n c:=by
 obtain ⟨xs,u1,_⟩:=h.hU
 rcases u1.2 with ⟨rfl,_⟩ | ⟨g,cap,cur,rfl,_⟩
 ·exact ⟨_,_,_,rfl⟩
 ·exact ⟨_,_,_,rfl⟩
theorem par_cell {w w':World} {a:Addr} {u:Value} (h:w.cell? a=some u) (hb:Below w.heap.size w w'):w'.cell? a=some u:=(hb.cell (cell_lt h)).trans h
set_option maxHeartbeats 16000000 in
set_option maxRecDepth 1000000 in
theorem par_walk {T:Tab} (hf:Facts T) {w:World} (hT:TabAt T w) {a:Option Addr} {n c:Nat} {ls:List ByteArray} (hn:ls.length=n) (hsm:n<=1000000) (hls:∀ i s,ls[i]? = some s -> ∃ ad,a=some ad /\ w.cell? (ad.add i)=some (.string s) /\ s.size<=maxLen) {xf:RSt} {ef:Int} (hF:parseL (ls.map bytesL) rst0=some (xf,ef)) :
    Calls Tryz.prog 27 #[.slice a n c] w fun e w'=>ParPost w xf ef e w':=by
  have hs0:=start_rd w
  have HL:Aside (TabAt T w /\ ls.length=n /\ (∀ i s,ls[i]? = some s -> ∃ ad,a=some ad /\ w.cell? (ad.add i)=some (.string s) /\ s.size<=maxLen) /\ parseL (ls.map bytesL) rst0=some (xf,ef)):=⟨hT,hn,hls,hF⟩
  have HS0:Aside (RdAt (w.heap.size+1) (confW w) (w.heap.size+1+1+1) (w.heap.size+1+1) (.slice none 0 0) (fun b=>if b=w.heap.size+1+1+1 then .rdr else if b=w.heap.size+1+1 then .map else .no) rst0):=hs0
  clear hT hn hls hF hs0
  go_enter Tryz.func27,Tryz.ntmps27
  have hmm:=@run_makeMap Tryz.prog
  go_wp2
  go_loopw [3,14] (fun u vi wr=>u=.int .i64 0 /\ ∃ k:Nat,vi=.int .i64 k /\ k<=n /\ Aside (∃ x v role,RdAt (w.heap.size+1) wr (w.heap.size+1+1+1) (w.heap.size+1+1) v role x /\ parseL ((ls.drop k).map bytesL) x=some (xf,ef)) /\ Aside (wr.heap[w.heap.size]? = some (Obj.cells #[Value.int IntKind.i64 0,Value.int IntKind.i64 0,Value.int IntKind.i64 0,Value.int IntKind.i64 0,Value.int IntKind.i64 0,Value.int IntKind.i64 0,Value.int IntKind.i64 0,Value.slice none 0 0] 51 (0,0))) /\ Below w.heap.size w wr) (fun _ vi _=>n - (intOf vi).toNat)
  case atStart=>
    refine ⟨rfl,0,rfl,by omega,⟨rst0,_,_,HS0.out,HL.out.2.2.2⟩,?_,?_⟩
    · exact (four w _ _ _ _ rfl).2
    · exact (four w _ _ _ _ rfl).1
  case round=>
    obtain ⟨rfl,k,rfl,hk,HX,HZ,hb⟩:=hrel
    have hwr:w.heap.size<=wr.heap.size:=hb.size
    by_cases hlt:k < n
    · obtain ⟨x,v,role,hrd,hp⟩:=HX.out
      have hkl:k < ls.length:=by rw [HL.out.2.1];exact hlt
      obtain ⟨s,hsk⟩:∃ s,ls[k]? = some s:=⟨_,List.getElem?_eq_getElem hkl⟩
      obtain ⟨ad,rfl,hc0,hz⟩:=HL.out.2.2.1 k s hsk
      have hcr:=par_cell hc0 hb
      rw [List.drop_eq_getElem_cons hkl,List.map_cons,show ls[k]=s from by rw [List.getElem?_eq_getElem hkl] at hsk;injection hsk] at hp
      have hp:cond (skipL (bytesL s)) (parseL ((ls.drop (k+1)).map bytesL) x) ((lineP x (bytesL s)).bind fun p=>cond (decide (p.2=0)) (parseL ((ls.drop (k+1)).map bytesL) p.1) (some p))=some (xf,ef):=hp
      clear HX hsk hc0
      have hne:∀ h0:0 < s.size,bytesL s=(((s[0]'h0).toNat:Nat):Int)::(bytesL s).tail:=fun h0=>by
        have h1:s.data.toList.length=s.size:=by simp
        have h2:s.data.toList[0]? = some (s[0]'h0):=Lib.data_getElem? s 0 h0
        show s.data.toList.map byteI=_
        cases hq:s.data.toList with
        | nil=>rw [hq] at h2;cases h2
        | cons y r=>
          rw [hq] at h2
          injection h2 with h2
          show byteI y::r.map byteI=_
          rw [<-h2]
          show _=_::(s.data.toList.map byteI).tail
          rw [hq]
          rfl
      cases hsk:skipL (bytesL s) with
      | true=>
        rw [hsk,cond_true] at hp
        have HN:Aside (∃ x v role,RdAt (w.heap.size+1) wr (w.heap.size+1+1+1) (w.heap.size+1+1) v role x /\ parseL ((ls.drop (k+1)).map bytesL) x=some (xf,ef)):=⟨x,v,role,hrd,hp⟩
        clear hrd hp
        by_cases h0:0 < s.size
        · have hc : (((s[0]'h0).toNat : Nat) : Int) = 35 := by
            unfold skipL at hsk
            rw [hne h0] at hsk
            simpa using hsk
          have hnn:¬ s.toList=[]:=fun e=>by
            have:=(bytes_nil s).2 e
            rw [hne h0] at this
            cases this
          clear hsk hne
          go_wp2
          all_goals exact ⟨⟨by first | rfl | trivial,k+1,by simp,by omega,HN,HZ,hb⟩,by simp [intOf];omega⟩
        · have hnn:s.toList=[]:=(bytes_nil s).1 (List.eq_nil_of_length_eq_zero (by rw [bytes_len];omega))
          clear hsk hne
          go_wp2
          all_goals exact ⟨⟨by first | rfl | trivial,k+1,by simp,by omega,HN,HZ,hb⟩,by simp [intOf];omega⟩
      | false=>
        rw [hsk,cond_false] at hp
        obtain ⟨⟨x1,e1⟩,hl1,hp⟩:=Option.bind_eq_some_iff.1 hp
        have hnn:¬ s.toList=[]:=fun e=>by
          have:=(bytes_nil s).2 e
          rw [this] at hsk
          cases hsk
        have h0:0 < s.size:=by
          rcases Nat.lt_or_ge 0 s.size with h | h
          · exact h
          · exact absurd ((bytes_nil s).1 (List.eq_nil_of_length_eq_zero (by rw [bytes_len];omega))) hnn
        have hc:¬ (((s[0]'h0).toNat:Nat):Int)=35:=fun e=>by
          unfold skipL at hsk
          rw [hne h0,e] at hsk
          cases hsk
        have hTr:TabAt T wr:=HL.out.1.below hb
        have hlw:w.heap.size+1<=wr.heap.size:=(Array.getElem?_eq_some_iff.1 HZ.out).1
        have hlk:=line_walk hf hrd hTr hlw hz hl1
        have hzb:∀ w2,Below (w.heap.size+1) wr w2->w2.heap[w.heap.size]? = _:=fun w2 h=>(h.block w.heap.size (by omega)).trans HZ.out
        have HN:Aside (_ /\ _):=⟨hp,hzb⟩
        clear hrd hp hsk hne hTr hlw hl1 hzb
        by_cases he:e1=0
        · subst he
          go_wp2_with (go_at_call 54;(refine hlk.mono ?_;rintro e w2 ⟨rfl,hb2,h2⟩;have H2:Aside (_ /\ _):=⟨hb2,h2⟩;clear hb2 h2))
          all_goals first
            | (exfalso;rename_i hor;rcases hor with hor | hor;exact hnn (List.isEmpty_iff.1 hor);exact hc (by simpa using hor))
            | (obtain ⟨v', role', hrd'⟩ := H2.out.2 (by first | rfl | trivial)
               exact ⟨⟨by first | rfl | trivial,k+1,by simp,by omega,⟨x1,v',role',hrd',HN.out.1⟩,HN.out.2 _ H2.out.1,hb.trans (H2.out.1.mono (by omega))⟩,by simp [intOf];omega⟩)
        · have hpe : some (x1, e1) = some (xf, ef) := by
            have:=HN.out.1
            rw [decide_eq_false he] at this
            exact this
          injection hpe with hpe
          obtain ⟨rfl,rfl⟩:=Prod.mk.inj hpe
          go_wp2_with (go_at_call 54;(refine hlk.mono ?_;rintro e w2 ⟨rfl,hb2,h2⟩;obtain ⟨z0,z1,z2,z3,z4,z5,z6,z7,f0,f1,f2,f3,f4,f5,f6,f7⟩:=cells8 (HN.out.2 _ hb2);have H2:Aside (_ /\ _):=⟨hb2,h2⟩;clear hb2 h2))
          all_goals first
            | (exfalso;rename_i hor;rcases hor with hor | hor;exact hnn (List.isEmpty_iff.1 hor);exact hc (by simpa using hor))
            | skip
          all_goals
            generalize hW:World.setCell _ _ _=W8
            obtain ⟨y1,y2,y3,y4⟩:=set8 (HN.out.2 _ H2.out.1) hW
            exact conf_ret rfl rfl rfl y1 ⟨below_set (hb.trans (H2.out.1.mono (by omega))) y2 y3 y4,fun _=>rfl,fun h=>absurd h he⟩
    · obtain rfl:k=n:=by omega
      obtain ⟨x,v,role,hrd,hp⟩:=HX.out
      rw [List.drop_eq_nil_of_le (by rw [HL.out.2.1];exact Nat.le_refl _)] at hp
      have hp:some (x,(0:Int))=some (xf,ef):=hp
      injection hp with hp
      obtain ⟨rfl,rfl⟩:=Prod.mk.inj hp
      obtain ⟨z0,z1,z2,z3,z4,z5,z6,z7,f0,f1,f2,f3,f4,f5,f6,f7⟩:=cells8 HZ.out
      obtain ⟨va,vn,vc,rfl⟩:=rd_slice hrd
      obtain ⟨q0,q1,q2,q3,q4,q5,q6,q7,q8,_⟩:=cells9 hrd.hR
      have HR:Aside (RdAt (w.heap.size+1) wr (w.heap.size+1+1+1) (w.heap.size+1+1) (.slice va vn vc) role x):=hrd
      clear hrd
      go_wp2
      generalize hW:World.setCell _ _ _=W8
      obtain ⟨y1,y2,y3,y4⟩:=set8 HZ.out hW
      refine conf_ret rfl rfl rfl y1 ⟨below_set hb y2 y3 y4,fun h=>absurd rfl h,fun _=>⟨_,role,rfl,HR.out.keep (fun b hr=>y2 b (by have:=(HR.out.lt b hr).1;omega)) (by rw [y3];exact Nat.le_refl _)⟩⟩
theorem strs_any {P:Nat->ByteArray->Prop}:∀ (l:List (List Int)),(∀ (i:Nat) (y:List Int),l[i]? = some y -> ∃ t:ByteArray,P i t /\ bytesL t=y) -> ∃ ws:List ByteArray,ws.map bytesL=l /\ ∀ (i:Nat) (t:ByteArray),ws[i]? = some t->P i t:=by
 intro l h
 have key:∀ k,k<=l.length -> ∃ ws:List ByteArray,ws.map bytesL=l.take k /\ ∀ (i:Nat) (t:ByteArray),ws[i]? = some t->P i t:=by
  intro k
  induction k with
  | zero=>exact fun _=>⟨[],rfl,fun i t ht=>by simp at ht⟩
  | succ k ih=>
   intro hk
   obtain ⟨ws,h1,h2⟩:=ih (by omega)
   have hget:l[k]? = some l[k]:=List.getElem?_eq_getElem (by omega)
   obtain ⟨t,ht,ht2⟩:=h k _ hget
   have hl:ws.length=k:=by
    have:=congrArg List.length h1
    rw [List.length_map,List.length_take] at this
    omega
   refine ⟨ws++[t],?_,fun i u hu=>?_⟩
   ·rw [List.map_append,h1,List.take_add_one,hget,<- ht2];rfl
   ·rcases Nat.lt_or_ge i ws.length with hi | hi
    ·rw [List.getElem?_append_left hi] at hu
     exact h2 i u hu
    ·rw [List.getElem?_append_right hi] at hu
     have hi2:i=k:=by
      have:=(List.getElem?_eq_some_iff.1 hu).1
      simp at this
      omega
     subst hi2
     rw [hl,Nat.sub_self] at hu
     injection hu with hu
     subst hu
     exact ht
 obtain ⟨ws,h1,h2⟩:=key l.length (Nat.le_refl _)
 exact ⟨ws,by rw [h1,List.take_length],h2⟩
theorem row_rep {lo:Nat} {w:World} {role:Nat->Role} {ro:Role} {E:TypeId} {e:Ty} {l:List e.D} {v:Value} {C:Com} (h:RowAt lo w role ro E e l v) (he:flatT e=true) (hC:∀ b o,v.ownBlock=some b->o < List.length l*e.size->C b o):RepD w C (.sl e) l [v]:=by
 obtain ⟨xs,h1,h2,h3⟩:=h
 rcases h1.2 with ⟨rfl,hn⟩ | ⟨g,cap,cur,rfl,hb,hg,hlc,hcm,hcs,ht⟩
 ·refine ⟨none,0,0,rfl,hn,Nat.le_refl _,by unfold maxLen;omega,fun i x hx=>?_⟩
  have hx:l[i]? = some x:=hx
  have:=(List.getElem?_eq_some_iff.1 hx).1
  omega
 ·refine ⟨_,_,_,rfl,rfl,hlc,hcm,fun i x hx=>?_⟩
  have hx:l[i]? = some x:=hx
  have hi:=(List.getElem?_eq_some_iff.1 hx).1
  have hr:=h3 i x hx
  refine ⟨⟨g,0,none⟩,(xs.drop (i*e.size)).take e.size,rfl,RepD.len hr,fun j u hj=>?_,repD_flat he hr⟩
  have hjl:j < e.size:=by
   have h4:=(List.getElem?_eq_some_iff.1 hj).1
   have h5:=RepD.len hr
   omega
  rw [List.getElem?_take,if_pos hjl,List.getElem?_drop] at hj
  refine ⟨h1.cells (g:=g) rfl _ u hj,?_⟩
  refine hC g _ rfl ?_
  have h6:(i+1)*e.size<=List.length l*e.size:=Nat.mul_le_mul_right _ hi
  rw [Nat.add_mul,Nat.one_mul] at h6
  show 0+(i*e.size+j) < _
  omega
theorem user_rep {lo:Nat} {w:World} {role:Nat->Role} {i:Nat} {u:UserD} {cs:List Value} {C:Com} (h:UserAt lo w role i u cs) (hC:∀ b o,role b=.flat \/ role b=.row i->C b o):RepD w C userT u cs:=by
 obtain ⟨nm,vs,vd,vr,rfl,h2,h3,h4,h5,h6,h7⟩:=h
 have k5:=row_rep (C:=C) h5 rfl fun b o hb _=>hC b o (.inl (by obtain ⟨_,_,q,_⟩:=h5;exact q b hb))
 have k6:=row_rep (C:=C) h6 rfl fun b o hb _=>hC b o (.inl (by obtain ⟨_,_,q,_⟩:=h6;exact q b hb))
 have k7:=row_rep (C:=C) h7 rfl fun b o hb _=>hC b o (.inr (by obtain ⟨_,_,q,_⟩:=h7;exact q b hb))
 exact ⟨[_],_,rfl,⟨nm,rfl,h2,h3⟩,[_,_],_,rfl,⟨[_],[_],rfl,k5,k6⟩,[_],_,rfl,⟨rfl,h4⟩,[_],_,rfl,rfl,k7⟩
def F_conf_Parse_sig:Sig:=⟨[.v false [.d (.sl .str)]],[(true,[.d (.int .i64),.d (.int .i64),.d (.int .i64),.d (.int .i64),.d (.int .i64),.d (.int .i64),.d (.int .i64),.own 63 (.pr .str (.pr (.pr (.sl (.int .u8)) (.sl (.int .u8))) (.pr (.int .i64) (.pr (.cpx .f64) (.sl (.pr .bool (.pr (.int .i64) (.pr .str (.pr (.pr .str (.int .i64)) (.pr (.int .i64) (.int .i64)))))))))))]),(false,[.d (.int .i64)])]⟩
abbrev ConfR:=Int×Int×Int×Int×Int×Int×Int×List UserD×Int
noncomputable def F_conf_Parse (l:List (List Int)):Option ConfR:=cond (Nat.ble l.length 1000000) ((parseL l rst0).bind fun p=>cond (decide (p.2=0)) (some (p.1.c0,p.1.c1,p.1.c2,p.1.c3,p.1.c4,p.1.c5,p.1.c6,p.1.us,0)) (cond (decide (0 < p.2)&&decide (p.2 < 10)) (some (0,0,0,0,0,0,0,[],p.2)) none)) none
theorem F_conf_Parse_sound {T:Tab} (h_maxlen:has_maxlen T) (h_pow10:tab_pow10∈T) (h_errs:has_errs T):SoundFn Tryz.prog T 27 F_conf_Parse_sig ⟨F_conf_Parse⟩:=by
  refine sound_of rfl fun F g O xs ls y tmf w args hT hw hlim hls happ hsz hr=>?_
  obtain ⟨(l:List (List Int)),xs',rfl,h2⟩:=appF_inv_c (ts:=[]) happ
  obtain ⟨rfl,h3⟩:=appF_inv_n h2
  have hls':some [Leaf.d (.sl .str) l]=some ls:=hls
  injection hls' with hls'
  subst hls'
  obtain ⟨a,n,c,e0,e1,e2,e3,e4⟩:=rel_leaf.1 (hr 0)
  have e0:args.getD 0 undef=.slice a n c:=by injection e0
  rw [args_1 hsz,e0]
  have h3:F_conf_Parse l=some y:=h3
  unfold F_conf_Parse at h3
  cases hb:Nat.ble l.length 1000000 with
  | false=>rw [hb] at h3;cases h3
  | true=>
    rw [hb,cond_true] at h3
    obtain ⟨⟨xf,ef⟩,hp,h3⟩:=Option.bind_eq_some_iff.1 h3
    have hble:=Nat.le_of_ble_eq_true hb
    have e1:l.length=n:=e1
    obtain ⟨bs,hbs,hbc⟩:=strs_any (P:=fun i t=>∃ ad,a=some ad /\ w.cell? (ad.add i)=some (.string t) /\ t.size<=maxLen) l fun i s hs=>by
      obtain ⟨ad,us,q1,q2,q3,t,q4,q5,q6⟩:=e4 i s hs
      refine ⟨t,⟨ad,q1,?_,q6⟩,q5⟩
      have:=(q3 0 (.string t) (by rw [q4];rfl)).1
      rw [show (Ty.str).size=1 from rfl,Nat.mul_one,Nat.add_zero] at this
      exact this
    have hbl:bs.length=n:=by rw [<-e1,<- hbs,List.length_map]
    refine (par_walk ⟨h_pow10,h_errs,h_maxlen⟩ hT hbl (by omega) hbc (by rw [hbs];exact hp)).mono ?_
    rintro e w' ⟨hbel,hno,hyes⟩
    by_cases he:ef=0
    · subst he
      obtain ⟨v,role,rfl,hrd⟩:=hyes rfl
      have hy:((xf.c0,xf.c1,xf.c2,xf.c3,xf.c4,xf.c5,xf.c6,xf.us,0):ConfR)=y:=by
        have h3:some _=some y:=h3
        injection h3
      subst hy
      obtain ⟨xs,u1,u2,u3⟩:=hrd.hU
      have hwfs:=hrd.wf
      have ti:∀ {C:Com} {bk:Tok->Option Nat} {x:Int},(Lit.int .i64 x).wf=true->RepL F ⟨C,bk,g.ρ,fun _ _=>[]⟩ w' (exitO F_conf_Parse_sig) (.d (.int .i64) x) [.int .i64 x]:=fun h=>⟨rfl,h⟩
      have h70:∀ {k:Tok} {v0:Option Nat} {b:Nat},(match tokEq k (.hd 0 7) with | true=>v0 | false=>none)=some b->k=.hd 0 7 /\ v0=some b:=fun {k v0 b} hk=>by
        cases hq:tokEq k (.hd 0 7) with
        | false=>rw [hq] at hk;cases hk
        | true=>
          rw [hq] at hk
          refine ⟨?_,hk⟩
          cases k with
          | hd d j=>
            have:(Nat.beq d 0&&Nat.beq j 7)=true:=hq
            simp only [Bool.and_eq_true] at this
            rw [Nat.eq_of_beq_eq_true this.1,Nat.eq_of_beq_eq_true this.2]
          | zero=>cases hq
          | op _ _=>cases hq
      have fin : ∀ (C' : Com) (bk : Option Nat), (∀ b o, b < w.heap.size -> (C' b o ↔ g.C b o)) -> (∀ b o, C' b o -> b < w'.heap.size) -> (∀ b, bk = some b -> w.heap.size <= b /\ b < w'.heap.size) -> RepL F ⟨C', fun k => match tokEq k (.hd 0 7) with | true => bk | false => none, g.ρ, fun _ _ => []⟩ w' (exitO F_conf_Parse_sig) (.own (.hd 0 7) 63 userT xf.us) [v] ->
          ∃ us os C' blk',Ending.returned (.tuple #[.agg #[.int .i64 xf.c0,.int .i64 xf.c1,.int .i64 xf.c2,.int .i64 xf.c3,.int .i64 xf.c4,.int .i64 xf.c5,.int .i64 xf.c6,v],.int .i64 0])=.returned (retV us) /\ us.length=F_conf_Parse_sig.rs.length /\ mkLs (Tok.hd 0) F_conf_Parse_sig.outs 0 (unpackD (F_conf_Parse_sig.outs.map LT.ty) ((xf.c0,xf.c1,xf.c2,xf.c3,xf.c4,xf.c5,xf.c6,xf.us,0):ConfR))=some os /\ Below w.heap.size w w' /\
            (∀ b o,b < w.heap.size->(C' b o↔g.C b o)) /\ (∀ b o,C' b o->b < w'.heap.size) /\ blk' .zero=none /\ (∀ k b,blk' k=some b->w.heap.size<=b /\ b < w'.heap.size) /\ (∀ k k' b,blk' k=some b->blk' k'=some b->k=k') /\
            ∀ i,i < F_conf_Parse_sig.rs.length->RelP F ⟨C',blk',g.ρ,fun _ _=>[]⟩ w' (exitO F_conf_Parse_sig) tmf (us.getD i undef) (resAt F_conf_Parse_sig.rs os i):=fun C' bk h1 h2 h3 h4=>by
        refine ⟨[.agg #[.int .i64 xf.c0,.int .i64 xf.c1,.int .i64 xf.c2,.int .i64 xf.c3,.int .i64 xf.c4,.int .i64 xf.c5,.int .i64 xf.c6,v],.int .i64 0],_,C',fun k=>match tokEq k (.hd 0 7) with | true=>bk | false=>none,rfl,rfl,rfl,hbel,h1,h2,rfl,fun k b hk=>h3 b (h70 hk).2,fun k k' b hk hk'=>(h70 hk).1.trans (h70 hk').1.symm,fun i hi=>?_⟩
        match i,hi with
        | 0,_=>
          refine ⟨[.int .i64 xf.c0,.int .i64 xf.c1,.int .i64 xf.c2,.int .i64 xf.c3,.int .i64 xf.c4,.int .i64 xf.c5,.int .i64 xf.c6,v],?_,rfl⟩
          have k0:(Lit.int .i64 xf.c0).wf=true:=hwfs _ (by simp [RSt.ints])
          have k1:(Lit.int .i64 xf.c1).wf=true:=hwfs _ (by simp [RSt.ints])
          have k2:(Lit.int .i64 xf.c2).wf=true:=hwfs _ (by simp [RSt.ints])
          have k3:(Lit.int .i64 xf.c3).wf=true:=hwfs _ (by simp [RSt.ints])
          have k4:(Lit.int .i64 xf.c4).wf=true:=hwfs _ (by simp [RSt.ints])
          have k5:(Lit.int .i64 xf.c5).wf=true:=hwfs _ (by simp [RSt.ints])
          have k6:(Lit.int .i64 xf.c6).wf=true:=hwfs _ (by simp [RSt.ints])
          exact ⟨[_],_,rfl,ti k0,[_],_,rfl,ti k1,[_],_,rfl,ti k2,[_],_,rfl,ti k3,[_],_,rfl,ti k4,[_],_,rfl,ti k5,[_],_,rfl,ti k6,[_],[],rfl,h4,rfl⟩
        | 1,_=>exact rel_leaf.2 ⟨rfl,rfl⟩
        | i+2,hi=>exact absurd hi (by show ¬ i+2 < 2;omega)
      rcases u1.2 with ⟨rfl,hn0⟩ | ⟨U,cap,cur,rfl,hUlo,hcell,hlc,hcm,hcs,htake⟩
      · have hnil:xf.us=[]:=List.eq_nil_of_length_eq_zero hn0
        refine fin g.C none (fun _ _ _=>Iff.rfl) (fun b o h=>Nat.lt_of_lt_of_le (hlim b o h) hbel.size) (fun b h=>(by cases h)) ?_
        rw [hnil]
        exact ⟨⟨none,0,0,rfl,rfl,Nat.le_refl _,by unfold maxLen;omega,fun i x hx=>by
          have hx:List.nil[i]? = some x:=hx
          simp at hx⟩,fun _=>⟨_,rfl,.inl ⟨none,rfl,rfl,rfl⟩⟩⟩
      · have hUs:U < w'.heap.size:=(Array.getElem?_eq_some_iff.1 hcell).1
        have hroU:=u2 U rfl
        have hel:∀ (i:Nat) (x:UserD),xf.us[i]? = some x->RepD w' (fun b o=>g.C b o \/ (w.heap.size<=b /\ b < w'.heap.size /\ (b=U->o < xf.us.length*6))) userT x ((cur.toList.drop (i*6)).take 6):=fun i x hx=>by
          have h1:=user_rep (C:=fun b o=>g.C b o \/ (w.heap.size<=b /\ b < w'.heap.size /\ (b=U->o < xf.us.length*6))) (u3 i x hx) fun b o hb=>.inr (by
            have hne:role b≠.no:=by rcases hb with hb | hb <;> (rw [hb];intro e;cases e)
            have h2:=hrd.lt b hne
            refine ⟨by omega,h2.2,fun e=>?_⟩
            rw [e,hroU] at hb
            rcases hb with hb | hb <;> cases hb)
          rw [<-htake,take_row (List.getElem?_eq_some_iff.1 hx).1] at h1
          exact h1
        refine fin (fun b o=>g.C b o \/ (w.heap.size<=b /\ b < w'.heap.size /\ (b=U->o < xf.us.length*6))) (some U) (fun b o hb=>⟨fun h=>h.elim id fun h=>absurd h.1 (by omega),.inl⟩) (fun b o h=>h.elim (fun h=>Nat.lt_of_lt_of_le (hlim b o h) hbel.size) fun h=>h.2.1) (fun b h=>by injection h with h;rw [<-h];exact ⟨by omega,hUs⟩) ⟨⟨_,_,_,rfl,rfl,hlc,hcm,fun i x hx=>?_⟩,fun _=>⟨_,rfl,.inr ⟨U,cap,cur,rfl,rfl,hcell,hlc,hcm,hcs,hel,fun o=>?_,fun o _=>.inl (by rw [hw];omega)⟩⟩⟩
        · have hx:xf.us[i]? = some x:=hx
          have hr:=hel i x hx
          have hi:=(List.getElem?_eq_some_iff.1 hx).1
          refine ⟨_,_,rfl,RepD.len hr,fun j u hj=>?_,hr⟩
          have hjl:j < 6:=by
            have h4:=(List.getElem?_eq_some_iff.1 hj).1
            have h5:_=6:=RepD.len hr
            omega
          rw [List.getElem?_take,if_pos hjl,List.getElem?_drop] at hj
          rw [add_at]
          refine ⟨?_,.inr ⟨by show w.heap.size<=U;omega,hUs,fun _=>?_⟩⟩
          · rw [cell_at hcell,<- Array.getElem?_toList,Nat.zero_add];exact hj
          · show 0+(i*6+j) < _
            omega
        · show (g.C U o \/ (w.heap.size<=U /\ U < w'.heap.size /\ (U=U->o < xf.us.length*6)))↔o < xf.us.length*6
          constructor
          · rintro (h | h)
            · have:=hlim _ _ h
              omega
            · exact h.2.2 rfl
          · intro h
            exact .inr ⟨by omega,hUs,fun _=>h⟩
    · rw [hno he]
      have h3:cond (decide (ef=0)) (some ((xf.c0,xf.c1,xf.c2,xf.c3,xf.c4,xf.c5,xf.c6,xf.us,0):ConfR)) (cond (decide (0 < ef)&&decide (ef < 10)) (some ((0,0,0,0,0,0,0,[],ef):ConfR)) none)=some y:=h3
      rw [decide_eq_false he,cond_false] at h3
      cases hlt:(decide (0 < ef)&&decide (ef < 10)) with
      | false=>rw [hlt] at h3;cases h3
      | true=>
      rw [hlt] at h3
      have hy:((0,0,0,0,0,0,0,[],ef):ConfR)=y:=by
        have h3:some _=some y:=h3
        injection h3
      subst hy
      rw [Bool.and_eq_true,decide_eq_true_eq,decide_eq_true_eq] at hlt
      refine ⟨[.agg #[.int .i64 0,.int .i64 0,.int .i64 0,.int .i64 0,.int .i64 0,.int .i64 0,.int .i64 0,.slice none 0 0],.int .i64 ef],_,g.C,fun _=>none,rfl,rfl,rfl,hbel,fun _ _ _=>Iff.rfl,fun b o h=>Nat.lt_of_lt_of_le (hlim b o h) hbel.size,rfl,fun k b h=>(by cases h),fun k k' b h=>(by cases h),fun i hi=>?_⟩
      match i,hi with
      | 0,_=>
        have ti:∀ {x:Int},(Lit.int .i64 x).wf=true->RepL F ⟨g.C,fun _=>none,g.ρ,fun _ _=>[]⟩ w' (exitO F_conf_Parse_sig) (.d (.int .i64) x) [.int .i64 x]:=fun h=>⟨rfl,h⟩
        refine ⟨[.int .i64 0,.int .i64 0,.int .i64 0,.int .i64 0,.int .i64 0,.int .i64 0,.int .i64 0,.slice none 0 0],?_,rfl⟩
        refine ⟨[_],_,rfl,ti rfl,[_],_,rfl,ti rfl,[_],_,rfl,ti rfl,[_],_,rfl,ti rfl,[_],_,rfl,ti rfl,[_],_,rfl,ti rfl,[_],_,rfl,ti rfl,[_],[],rfl,?_,rfl⟩
        exact ⟨⟨none,0,0,rfl,rfl,Nat.le_refl _,by unfold maxLen;omega,fun i x hx=>by
          have hx:List.nil[i]? = some x:=hx
          simp at hx⟩,fun _=>⟨_,rfl,.inl ⟨none,rfl,rfl,rfl⟩⟩⟩
      | 1,_=>
        have kw:(Lit.int .i64 ef).wf=true:=wf_of (by omega)
        exact rel_leaf.2 ⟨rfl,kw⟩
      | i+2,hi=>exact absurd hi (by show ¬ i+2 < 2;omega)
end Go.Proofs.YtgfmfgombmpodaaGreatDoor
namespace Go.Proofs.YtgfmfgombmpodaaGreatDoor
open Pv
set_option linter.unusedVariables false
noncomputable def F_wlvlaw18_first:Option (Bool):=
 (F_conf_Parse ([]:List (List Int))).bind fun x1=>
 cond (x1.2.2.2.2.2.2.2.2==0)
 (cond (x1.1==16)
 (cond (x1.2.1==100)
 (cond (x1.2.2.1==65535)
 (cond (x1.2.2.2.1==1000)
 (cond (x1.2.2.2.2.1==1000000)
 (cond (x1.2.2.2.2.2.1==1000)
 (cond (x1.2.2.2.2.2.2.1==16384)
 (some ((x1.2.2.2.2.2.2.2.1.length:Int)==0))
 (some false))
 (some false))
 (some false))
 (some false))
 (some false))
 (some false))
 (some false))
 (some false)
def F_wlvlaw18_first_sig:Sig:=⟨[],[(false,[.d .bool])]⟩
def F_wlvlaw18_first_ann:List (Nat×Ann):=[]
noncomputable def F_wlvlaw18_first_env:Env:=⟨Tryz.prog,[(27,⟨F_conf_Parse_sig,⟨F_conf_Parse⟩⟩)],[]⟩
theorem F_wlvlaw18_first_text:pvFn F_wlvlaw18_first_env F_wlvlaw18_first_ann Tryz.f25 F_wlvlaw18_first_sig=F_wlvlaw18_first:=by kernel_rfl
end Go.Proofs.YtgfmfgombmpodaaGreatDoor
