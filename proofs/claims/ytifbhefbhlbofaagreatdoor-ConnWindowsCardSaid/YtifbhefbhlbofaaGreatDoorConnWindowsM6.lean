/- Texts of this claim, one behind the other. -/
import Derived.Test.YtifbhefbhlbofaaGreatDoorConnWindowsM5
import Derived.Shelf.Spec.SlicesInsert
import Derived.LoopTactic
import Derived.Handy
import Derived.RegionTactic
import Derived.Lib.Builder
import Derived.Laws.ResultCell
import Derived.Laws.IdiomCopy
import Derived.Laws.CopyOwn
import Derived.Laws.Tables
import Derived.Lib.SliceRun
import Derived.Shelf.SlIterI.Nil
import Derived.Shelf.SlIterI.Sorted
import Derived.Shelf.SortM.Plain
import Derived.Shelf.SortM.SortNone
import Derived.Shelf.Spec.SlicesGrow
import Derived.Laws.BitsLemmas
import Ieee.Arith
import GoSem.Core.Float
set_option maxRecDepth 100000
namespace Go.Proofs.YtifbhefbhlbofaaGreatDoor
open Pv
theorem F_flow_part_sound {T:Tab}:SoundFn Tryz.prog T 175 F_flow_part_sig ⟨F_flow_part⟩:=by
 have h:=fn_sound (T:=T) (E:=F_flow_part_env) (by unfold Env.ok;exact fun p h=>by cases h) (A:=F_flow_part_ann) (f:=175) (fn:=Tryz.f175) (s:=F_flow_part_sig) Tryz.func175
 rw [F_flow_part_text] at h
 exact h
theorem F_flow_parts_sound {T:Tab}:SoundFn Tryz.prog T 143 F_flow_parts_sig ⟨F_flow_parts⟩:=by
 have h:=fn_sound (T:=T) (E:=F_flow_parts_env) (by unfold Env.ok;exact List.forall_mem_cons.2 ⟨F_flow_part_sound,fun p h=>by cases h⟩) (A:=F_flow_parts_ann) (f:=143) (fn:=Tryz.f143) (s:=F_flow_parts_sig) Tryz.func143
 rw [F_flow_parts_text] at h
 exact h
theorem F_flow_Stream_sound {T:Tab}:SoundFn Tryz.prog T 91 F_flow_Stream_sig ⟨F_flow_Stream⟩:=by
 have h:=fn_sound (T:=T) (E:=F_flow_Stream_env) (by unfold Env.ok;exact List.forall_mem_cons.2 ⟨F_flow_parts_sound,fun p h=>by cases h⟩) (A:=F_flow_Stream_ann) (f:=91) (fn:=Tryz.f91) (s:=F_flow_Stream_sig) Tryz.func91
 rw [F_flow_Stream_text] at h
 exact h
theorem F_flow_Conn_sound {T:Tab}:SoundFn Tryz.prog T 92 F_flow_Conn_sig ⟨F_flow_Conn⟩:=by
 have h:=fn_sound (T:=T) (E:=F_flow_Conn_env) (by unfold Env.ok;exact List.forall_mem_cons.2 ⟨F_flow_parts_sound,fun p h=>by cases h⟩) (A:=F_flow_Conn_ann) (f:=92) (fn:=Tryz.f92) (s:=F_flow_Conn_sig) Tryz.func92
 rw [F_flow_Conn_text] at h
 exact h
theorem F_flow_cut_sound {T:Tab}:SoundFn Tryz.prog T 176 F_flow_cut_sig ⟨F_flow_cut⟩:=by
 have h:=fn_sound (T:=T) (E:=F_flow_cut_env) (by unfold Env.ok;exact fun p h=>by cases h) (A:=F_flow_cut_ann) (f:=176) (fn:=Tryz.f176) (s:=F_flow_cut_sig) Tryz.func176
 rw [F_flow_cut_text] at h
 exact h
theorem F_flow_Windows_sound {T:Tab}:SoundFn Tryz.prog T 144 F_flow_Windows_sig ⟨F_flow_Windows⟩:=by
 have h:=fn_sound (T:=T) (E:=F_flow_Windows_env) (by unfold Env.ok;exact List.forall_mem_cons.2 ⟨F_flow_cut_sound,fun p h=>by cases h⟩) (A:=F_flow_Windows_ann) (f:=144) (fn:=Tryz.f144) (s:=F_flow_Windows_sig) Tryz.func144
 rw [F_flow_Windows_text] at h
 exact h
theorem F_flow_fault_sound {T:Tab}:SoundFn Tryz.prog T 188 F_flow_fault_sig ⟨F_flow_fault⟩:=by
 have h:=fn_sound (T:=T) (E:=F_flow_fault_env) (by unfold Env.ok;exact fun p h=>by cases h) (A:=F_flow_fault_ann) (f:=188) (fn:=Tryz.f188) (s:=F_flow_fault_sig) Tryz.func188
 rw [F_flow_fault_text] at h
 exact h
theorem F_flow_Shift_sound {T:Tab}:SoundFn Tryz.prog T 164 F_flow_Shift_sig ⟨F_flow_Shift⟩:=by
 have h:=fn_sound (T:=T) (E:=F_flow_Shift_env) (by unfold Env.ok;exact List.forall_mem_cons.2 ⟨F_flow_Stream_sound,List.forall_mem_cons.2 ⟨F_flow_Conn_sound,List.forall_mem_cons.2 ⟨F_flow_parts_sound,List.forall_mem_cons.2 ⟨F_flow_Windows_sound,List.forall_mem_cons.2 ⟨F_flow_cut_sound,List.forall_mem_cons.2 ⟨F_flow_fault_sound,fun p h=>by cases h⟩⟩⟩⟩⟩⟩) (A:=F_flow_Shift_ann) (f:=164) (fn:=Tryz.f164) (s:=F_flow_Shift_sig) Tryz.func164
 rw [F_flow_Shift_text] at h
 exact h
theorem F_flow_Grant_sound {T:Tab}:SoundFn Tryz.prog T 166 F_flow_Grant_sig ⟨F_flow_Grant⟩:=by
 have h:=fn_sound (T:=T) (E:=F_flow_Grant_env) (by unfold Env.ok;exact List.forall_mem_cons.2 ⟨F_flow_parts_sound,List.forall_mem_cons.2 ⟨F_flow_fault_sound,fun p h=>by cases h⟩⟩) (A:=F_flow_Grant_ann) (f:=166) (fn:=Tryz.f166) (s:=F_flow_Grant_sig) Tryz.func166
 rw [F_flow_Grant_text] at h
 exact h
end Go.Proofs.YtifbhefbhlbofaaGreatDoor
namespace Go.Proofs.YtifbhefbhlbofaaGreatDoor
open Go.RowKit Go.Lib Go.Shelf Pv
set_option linter.unusedVariables false
abbrev tFr:TypeId:=43
theorem sizeF:sizeT Tryz.prog tFr=some 4:=by kernel_rfl
theorem agF:isAg Tryz.prog tFr=true:=by kernel_rfl
theorem sizeU:(Tryz.prog.info? 5).map (·.size)=some 1:=by kernel_rfl
def zs8:List Value:=List.replicate 8 (.int .u8 0)
theorem frame_load {w:World} {R:Nat} {v0 v1 v2 v3:Value} (hR:w.heap[R]? = some (.cells #[v0,v1,v2,v3] tFr (0,0))):(loadVar tFr ⟨R,0,none⟩).run Tryz.prog w=.ok (.agg #[v0,v1,v2,v3]) w:=
 run_loadVar_cells (P:=Tryz.prog) (w:=w) (t:=tFr) (ad:=⟨R,0,none⟩) (us:=[v0,v1,v2,v3]) sizeF rfl agF (fun j x hj=>by
  show w.cell? ((⟨R,0,none⟩:Addr).add j)=_
  have e:(⟨R,0,none⟩:Addr).add j=⟨R,j,none⟩:=by unfold Addr.add;simp;omega
  rw [e,Lib.cell_of_heap hR]
  rw [<-hj];simp)
def set4 (w:World) (R:Nat) (u0 u1 u2 u3:Value):World:=(((w.setCell ⟨R,0,none⟩ u0).setCell ⟨R,1,none⟩ u1).setCell ⟨R,2,none⟩ u2).setCell ⟨R,3,none⟩ u3
theorem setCell_new {w:World} {R:Nat} {cs:Array Value} {T:TypeId} {f:Nat×Nat} (hR:w.heap[R]? = some (.cells cs T f)) (o:Nat) (u:Value):(w.setCell ⟨R,o,none⟩ u).heap[R]? = some (.cells (cs.setIfInBounds o u) T f):=by
 rw [setCell_heap,if_pos rfl,hR];simp
theorem setCell_old {w:World} {R j o:Nat} {u:Value} (h:j≠R):(w.setCell ⟨R,o,none⟩ u).heap[j]? = w.heap[j]?:=by
 rw [setCell_heap,if_neg h]
theorem set4_new {w:World} {R:Nat} {v0 v1 v2 v3 u0 u1 u2 u3:Value} (hR:w.heap[R]? = some (.cells #[v0,v1,v2,v3] tFr (0,0))):(set4 w R u0 u1 u2 u3).heap[R]? = some (.cells #[u0,u1,u2,u3] tFr (0,0)):=
 setCell_new (setCell_new (setCell_new (setCell_new hR 0 u0) 1 u1) 2 u2) 3 u3
theorem set4_old {w:World} {R j:Nat} {u0 u1 u2 u3:Value} (h:j≠R):(set4 w R u0 u1 u2 u3).heap[j]? = w.heap[j]?:=
 (setCell_old h).trans ((setCell_old h).trans ((setCell_old h).trans (setCell_old h)))
theorem set4_size {w:World} {R:Nat} {u0 u1 u2 u3:Value}:(set4 w R u0 u1 u2 u3).heap.size=w.heap.size:=by simp [set4,World.setCell]
theorem cell_new {w:World} {R:Nat} {cs:Array Value} {T:TypeId} (hR:w.heap[R]? = some (.cells cs T (0,0))) {o:Nat} {v:Value} (h:cs[o]? = some v):w.cell? ⟨R,o,none⟩=some v /\ w.frozen? ⟨R,o,none⟩=false:=by
 refine ⟨?_,?_⟩
 ·rw [cell_at hR];exact h
 ·exact frozen_at hR (.inr (Nat.zero_le _))
theorem results_cell1 {fn:Func} {p:Tmp} {ty:TypeId} (h:fn.results = #[.cell p ty]) (tmps:Array Value) (P:Program) (w:World) :
  (results fn tmps).run P w=((asAddr (tmps.getD p undef)).run P w).andThen fun a w₁=>(loadVar ty a).run P w₁:=by
 simp only [results,h]
 simp [Sem.run_bind,Result.andThen]
theorem flag_calls (a:Bool) (w:World):Calls Tryz.prog 106 #[.bool a,.int .i64 1] w fun e w'=>e=.returned (.int .i64 (cond a 1 0)) /\ w'=w:=by
 go_enter Tryz.func106,Tryz.ntmps106
 cases a
 ·go_wp2
  go_ret
  exact ⟨rfl,rfl⟩
 ·go_wp2
  go_ret
  exact ⟨rfl,rfl⟩
theorem pingB_splice (b:List Int):splice zs8 0 ((b.take 8).map (Value.int .u8))=(pingB b).map (Value.int .u8):=by
 unfold splice pingB zs8
 rw [List.map_append,List.take_zero,List.nil_append,List.length_map,List.length_take,List.drop_replicate,List.map_replicate]
 congr 2
 omega
theorem copy_zs {W:World} {B:Nat} (hB0:W.heap[B]? = some (.cells zs8.toArray 5 (0,0))) {a:Option Addr} {n c:Nat} {b:List Int} (hl:b.length=n) (hc:∀ ad,a=some ad -> ∀ (i:Nat) x,b[i]? = some x->W.cell? (ad.add i)=some (.int .u8 x)) (ha:a=none->b=[]) :
    ∃ w4,(Builtin.copy_ #[32,32] 3 #[.slice (some ⟨B,0,none⟩) 8 8,.slice a n c]).run Tryz.prog W=.ok (goInt ((b.take 8).map (Value.int .u8)).length) w4 /\
      w4.heap[B]? = some (.cells ((pingB b).map (Value.int .u8)).toArray 5 (0,0)) /\ (∀ j,j≠B->w4.heap[j]? = W.heap[j]?) /\ w4.heap.size=W.heap.size /\ w4.os=W.os /\ w4.tape=W.tape /\ w4.output=W.output:=by
  have hlz:zs8.toArray.size=8:=rfl
  have hcl:((b.take 8).map (Value.int .u8)).length=Nat.min n 8:=by
    rw [List.length_map,List.length_take,hl,Nat.min_comm]
  rw [<-pingB_splice]
  cases a with
  | none=>
    have hb0:=ha rfl
    subst hb0
    have hn0:n=0:=by rw [<-hl];rfl
    subst hn0
    exact ⟨W,run_copy_none (P:=Tryz.prog) _ 32 32 3 5 (some ⟨B,0,none⟩) none 8 8 0 c Tryz.underlying32 sizeU rfl,hB0,fun _ _=>rfl,rfl,rfl,rfl,rfl⟩
  | some ad=>
    have hle:Nat.min n 8<=8:=Nat.min_le_right _ _
    have hrun := run_copy_row (P := Tryz.prog) W 32 32 3 5 B 0 8 8 ad n c zs8.toArray 5 ((b.take 8).map (Value.int .u8)) Tryz.underlying32 sizeU hB0 hcl (fun j v hj => by
        rw [List.getElem?_map] at hj
        obtain ⟨x,hx,rfl⟩:=Option.map_eq_some_iff.1 hj
        rw [List.getElem?_take] at hx
        split at hx
        · exact hc ad rfl j x hx
        · cases hx) (by rw [hcl,hlz];omega) (fun v hv=>by obtain ⟨x,_,rfl⟩:=List.mem_map.1 hv;rfl)
    refine ⟨_,hrun,(setRow_heap _ _ _ _ _ _ hB0).trans ?_,fun j hj=>setRow_other _ _ _ _ hj,by simp [World.setRow],rfl,rfl,rfl⟩
    unfold splice
    rw [List.append_assoc,List.toList_toArray]
theorem make8 (w:World):(Instr.makeSlice 32 (.int .i64 8) (.int .i64 8)).run Tryz.prog w=.ok (.slice (some ⟨w.heap.size,0,none⟩) 8 8) (w.alloc (.cells zs8.toArray 5)):=by
 obtain ⟨i0,hi,hz0,hz1,hz2⟩:=info_parts infoU
 have hmade:madeCells (Value.int .u8 0).cells (8*i0.size)=zs8.toArray:=by
  rw [hz1,Nat.mul_one]
  apply Array.ext
  ·simp [madeCells,zs8]
  ·intro i h1 h2
   have h3:zs8.toArray[i]=.int .u8 0:=by
    have:=List.eq_of_mem_replicate (List.getElem_mem (l:=zs8) h2)
    exact this
   rw [h3]
   simp [madeCells,Value.cells,Nat.mod_one]
 have h:=run_make (P:=Tryz.prog) w 32 5 i0 _ Tryz.underlying32 hi hz0 .i64 .i64 (8:Int) (8:Int) (by omega) (Int.le_refl _) (by rw [hz2];decide) (by decide)
 rw [show (8:Int).toNat=8 from rfl,hmade] at h
 exact h
theorem ping_done {w4:World} {fn:Func} {a:Act} {R:Nat} {u0 u1 u2 u3:Value} {Z:Ending->World->Prop} (hf:fn.results = #[.cell 4 tFr]) (hd:a.defers=[]) (h4:a.tmps.getD 4 undef=.pointer (some ⟨R,0,none⟩)) (hR:w4.heap[R]? = some (.cells #[u0,u1,u2,u3] tFr (0,0))) (hZ:Z (.returned (.agg #[u0,u1,u2,u3])) w4):bodyPost Tryz.prog fn Z .ret a w4:=by
 refine bodyPost_ret ?_ hd hZ
 rw [results_cell1 hf,h4]
 simp [asAddr,frame_load hR]
set_option maxHeartbeats 4000000 in
set_option maxRecDepth 1000000 in
theorem ping_walk (a:Option Addr) (n c:Nat) (b:List Int) (ack:Bool) (w:World) (hl:b.length=n) (hc:Aside (∀ ad,a=some ad -> ∀ (i:Nat) x,b[i]? = some x->w.cell? (ad.add i)=some (.int .u8 x))) (ha:a=none->b=[]) :
  Calls Tryz.prog 53 #[.slice a n c,.bool ack] w fun e w'=>e=.returned (.agg #[.int .i64 6,.int .i64 (cond ack 1 0),.int .i64 0,.slice (some ⟨w.heap.size+1,0,none⟩) 8 8]) /\
   w'.heap[w.heap.size+1]? = some (.cells ((pingB b).map (Value.int .u8)).toArray 5 (0,0)) /\ Below w.heap.size w w':=by
 go_enter Tryz.func53,Tryz.ntmps53
 have hR0:(w.alloc (Obj.cells #[Value.int IntKind.i64 0,Value.int IntKind.i64 0,Value.int IntKind.i64 0,Value.slice none 0 0] tFr)).heap[w.heap.size]? = some (.cells #[Value.int IntKind.i64 0,Value.int IntKind.i64 0,Value.int IntKind.i64 0,Value.slice none 0 0] tFr (0,0)):=heap_alloc_new w _
 have hs0:(w.alloc (Obj.cells #[Value.int IntKind.i64 0,Value.int IntKind.i64 0,Value.int IntKind.i64 0,Value.slice none 0 0] tFr)).heap.size=w.heap.size+1:=by simp
 have hmk1:=make8 (w.alloc (Obj.cells #[Value.int IntKind.i64 0,Value.int IntKind.i64 0,Value.int IntKind.i64 0,Value.slice none 0 0] tFr))
 rw [hs0] at hmk1
 have hB0:=heap_alloc_new (w.alloc (Obj.cells #[Value.int IntKind.i64 0,Value.int IntKind.i64 0,Value.int IntKind.i64 0,Value.slice none 0 0] tFr)) (.cells zs8.toArray 5)
 rw [hs0] at hB0
 have hbel0:Below w.heap.size w ((w.alloc (Obj.cells #[Value.int IntKind.i64 0,Value.int IntKind.i64 0,Value.int IntKind.i64 0,Value.slice none 0 0] tFr)).alloc (.cells zs8.toArray 5)):=((Below.refl _ _).alloc (Nat.le_refl _) _).alloc (by rw [hs0];omega) _
 have hR1:((w.alloc (Obj.cells #[Value.int IntKind.i64 0,Value.int IntKind.i64 0,Value.int IntKind.i64 0,Value.slice none 0 0] tFr)).alloc (.cells zs8.toArray 5)).heap[w.heap.size]? = _:=(Lib.alloc_old _ _ _ (by rw [hs0];omega)).trans hR0
 obtain ⟨w4,hcp,hg4,ho4,hs4,hq1,hq2,hq3⟩:=copy_zs hB0 (c:=c) hl (fun ad hz i x hx=>Lib.cell?_alloc_some _ (Lib.cell?_alloc_some _ (hc.out ad hz i x hx))) ha
 have hR4:w4.heap[w.heap.size]? = some (.cells #[Value.int IntKind.i64 0,Value.int IntKind.i64 0,Value.int IntKind.i64 0,Value.slice none 0 0] tFr (0,0)):=(ho4 _ (by omega)).trans hR1
 clear hc
 obtain ⟨c0,f0⟩:=cell_new hR4 (o:=0) rfl
 have hR5:=setCell_new hR4 0 (.int .i64 6)
 obtain ⟨c1,f1⟩:=cell_new hR5 (o:=1) rfl
 have hR6:=setCell_new hR5 1 (.int .i64 (cond ack 1 0))
 obtain ⟨c2,f2⟩:=cell_new hR6 (o:=2) rfl
 have hR7:=setCell_new hR6 2 (.int .i64 0)
 obtain ⟨c3,f3⟩:=cell_new hR7 (o:=3) rfl
 go_wp2_with (first | (simp only [hmk1]) | (go_at_call 106;(with_reducible refine (flag_calls _ _).mono ?_);rintro e w1 ⟨rfl,hw1⟩;rw [hw1]) | (simp only [hcp]))
 refine ping_done rfl rfl rfl (set4_new hR4) ⟨rfl,(set4_old (by omega)).trans hg4,?_⟩
 refine hbel0.trans ⟨hq1,hq2,hq3,Nat.le_of_eq (set4_size.trans hs4).symm,fun k hk=>?_⟩
 exact (set4_old (by omega)).trans (ho4 k (by omega))
set_option maxHeartbeats 4000000 in
set_option maxRecDepth 1000000 in
theorem rping_walk (a:Option Addr) (n c:Nat) (b:List Int) (ack:Bool) (w:World) (hl:b.length=n) (hc:Aside (∀ ad,a=some ad -> ∀ (i:Nat) x,b[i]? = some x->w.cell? (ad.add i)=some (.int .u8 x))) (ha:a=none->b=[]) :
  Calls Tryz.prog 36 #[.slice a n c,.bool ack] w fun e w'=>e=.returned (.agg #[.int .i64 6,.int .i64 (cond ack 1 0),.int .i64 0,.slice (some ⟨w.heap.size+1,0,none⟩) 8 8]) /\
   w'.heap[w.heap.size+1]? = some (.cells ((pingB b).map (Value.int .u8)).toArray 5 (0,0)) /\ Below w.heap.size w w':=by
 go_enter Tryz.func36,Tryz.ntmps36
 have hs0:(w.alloc (Obj.cells #[Value.int IntKind.i64 0,Value.int IntKind.i64 0,Value.int IntKind.i64 0,Value.slice none 0 0] tFr)).heap.size=w.heap.size+1:=by simp
 have hmk1:=make8 (w.alloc (Obj.cells #[Value.int IntKind.i64 0,Value.int IntKind.i64 0,Value.int IntKind.i64 0,Value.slice none 0 0] tFr))
 rw [hs0] at hmk1
 have hR0:(w.alloc (Obj.cells #[Value.int IntKind.i64 0,Value.int IntKind.i64 0,Value.int IntKind.i64 0,Value.slice none 0 0] tFr)).heap[w.heap.size]? = some (Obj.cells #[Value.int IntKind.i64 0,Value.int IntKind.i64 0,Value.int IntKind.i64 0,Value.slice none 0 0] tFr):=heap_alloc_new w _
 have hs1:((w.alloc (Obj.cells #[Value.int IntKind.i64 0,Value.int IntKind.i64 0,Value.int IntKind.i64 0,Value.slice none 0 0] tFr)).alloc (Obj.cells zs8.toArray 5)).heap.size=w.heap.size+1+1:=by simp
 have hB0:((w.alloc (Obj.cells #[Value.int IntKind.i64 0,Value.int IntKind.i64 0,Value.int IntKind.i64 0,Value.slice none 0 0] tFr)).alloc (Obj.cells zs8.toArray 5)).heap[w.heap.size+1]? = some (.cells zs8.toArray 5 (0,0)):=by
  have:=heap_alloc_new (w.alloc (Obj.cells #[Value.int IntKind.i64 0,Value.int IntKind.i64 0,Value.int IntKind.i64 0,Value.slice none 0 0] tFr)) (.cells zs8.toArray 5)
  rw [hs0] at this
  exact this
 have hR1:((w.alloc (Obj.cells #[Value.int IntKind.i64 0,Value.int IntKind.i64 0,Value.int IntKind.i64 0,Value.slice none 0 0] tFr)).alloc (Obj.cells zs8.toArray 5)).heap[w.heap.size]? = some (Obj.cells #[Value.int IntKind.i64 0,Value.int IntKind.i64 0,Value.int IntKind.i64 0,Value.slice none 0 0] tFr):=(Lib.alloc_old _ _ _ (by rw [hs0];omega)).trans hR0
 have hR2:(((w.alloc (Obj.cells #[Value.int IntKind.i64 0,Value.int IntKind.i64 0,Value.int IntKind.i64 0,Value.slice none 0 0] tFr)).alloc (Obj.cells zs8.toArray 5)).alloc (Obj.cells #[Value.int IntKind.i64 6,Value.int IntKind.i64 0,Value.int IntKind.i64 0,Value.slice (some ⟨w.heap.size+1,0,none⟩) 8 8] tFr)).heap[w.heap.size]? = some (Obj.cells #[Value.int IntKind.i64 0,Value.int IntKind.i64 0,Value.int IntKind.i64 0,Value.slice none 0 0] tFr):=(Lib.alloc_old _ _ _ (by rw [hs1];omega)).trans hR1
 have hB2:(((w.alloc (Obj.cells #[Value.int IntKind.i64 0,Value.int IntKind.i64 0,Value.int IntKind.i64 0,Value.slice none 0 0] tFr)).alloc (Obj.cells zs8.toArray 5)).alloc (Obj.cells #[Value.int IntKind.i64 6,Value.int IntKind.i64 0,Value.int IntKind.i64 0,Value.slice (some ⟨w.heap.size+1,0,none⟩) 8 8] tFr)).heap[w.heap.size+1]? = some (.cells zs8.toArray 5 (0,0)):=(Lib.alloc_old _ _ _ (by rw [hs1];omega)).trans hB0
 have hQ2:(((w.alloc (Obj.cells #[Value.int IntKind.i64 0,Value.int IntKind.i64 0,Value.int IntKind.i64 0,Value.slice none 0 0] tFr)).alloc (Obj.cells zs8.toArray 5)).alloc (Obj.cells #[Value.int IntKind.i64 6,Value.int IntKind.i64 0,Value.int IntKind.i64 0,Value.slice (some ⟨w.heap.size+1,0,none⟩) 8 8] tFr)).heap[w.heap.size+1+1]? = some (Obj.cells #[Value.int IntKind.i64 6,Value.int IntKind.i64 0,Value.int IntKind.i64 0,Value.slice (some ⟨w.heap.size+1,0,none⟩) 8 8] tFr):=by
  have:=heap_alloc_new ((w.alloc (Obj.cells #[Value.int IntKind.i64 0,Value.int IntKind.i64 0,Value.int IntKind.i64 0,Value.slice none 0 0] tFr)).alloc (Obj.cells zs8.toArray 5)) (Obj.cells #[Value.int IntKind.i64 6,Value.int IntKind.i64 0,Value.int IntKind.i64 0,Value.slice (some ⟨w.heap.size+1,0,none⟩) 8 8] tFr)
  rw [hs1] at this
  exact this
 have hbel0:Below w.heap.size w (((w.alloc (Obj.cells #[Value.int IntKind.i64 0,Value.int IntKind.i64 0,Value.int IntKind.i64 0,Value.slice none 0 0] tFr)).alloc (Obj.cells zs8.toArray 5)).alloc (Obj.cells #[Value.int IntKind.i64 6,Value.int IntKind.i64 0,Value.int IntKind.i64 0,Value.slice (some ⟨w.heap.size+1,0,none⟩) 8 8] tFr)):=(((Below.refl _ _).alloc (Nat.le_refl _) _).alloc (by rw [hs0];omega) _).alloc (by rw [hs1];omega) _
 obtain ⟨w4,hcp,hg4,ho4,hs4,hq1,hq2,hq3⟩:=copy_zs hB2 (c:=c) hl (fun ad hz i x hx=>Lib.cell?_alloc_some _ (Lib.cell?_alloc_some _ (Lib.cell?_alloc_some _ (hc.out ad hz i x hx)))) ha
 have hR4:w4.heap[w.heap.size]? = some (Obj.cells #[Value.int IntKind.i64 0,Value.int IntKind.i64 0,Value.int IntKind.i64 0,Value.slice none 0 0] tFr):=(ho4 _ (by omega)).trans hR2
 have hQ4:w4.heap[w.heap.size+1+1]? = some (Obj.cells #[Value.int IntKind.i64 6,Value.int IntKind.i64 0,Value.int IntKind.i64 0,Value.slice (some ⟨w.heap.size+1,0,none⟩) 8 8] tFr):=(ho4 _ (by omega)).trans hQ2
 clear hc
 cases ack with
 | false=>
  obtain ⟨e0,_⟩:=cell_new hQ4 (o:=0) rfl
  obtain ⟨e1,_⟩:=cell_new hQ4 (o:=1) rfl
  obtain ⟨e2,_⟩:=cell_new hQ4 (o:=2) rfl
  obtain ⟨e3,_⟩:=cell_new hQ4 (o:=3) rfl
  obtain ⟨c0,f0⟩:=cell_new hR4 (o:=0) rfl
  have hR5:=setCell_new hR4 0 (.int .i64 6)
  obtain ⟨c1,f1⟩:=cell_new hR5 (o:=1) rfl
  have hR6:=setCell_new hR5 1 (.int .i64 0)
  obtain ⟨c2,f2⟩:=cell_new hR6 (o:=2) rfl
  have hR7:=setCell_new hR6 2 (.int .i64 0)
  obtain ⟨c3,f3⟩:=cell_new hR7 (o:=3) rfl
  go_wp2_with (first | (simp only [hmk1]) | (simp only [hcp]))
  refine ping_done rfl rfl rfl (set4_new hR4) ⟨rfl,(set4_old (by omega)).trans hg4,?_⟩
  refine hbel0.trans ⟨hq1,hq2,hq3,Nat.le_of_eq (set4_size.trans hs4).symm,fun k hk=>?_⟩
  exact (set4_old (by omega)).trans (ho4 k (by omega))
 | true=>
  obtain ⟨e1',g1⟩:=cell_new hQ4 (o:=1) rfl
  have hQ5:=setCell_new hQ4 1 (.int .i64 1)
  have hR4:=(setCell_old (o:=1) (u:=.int .i64 1) (show w.heap.size≠w.heap.size+1+1 by omega)).trans hR4
  obtain ⟨e0,_⟩:=cell_new hQ5 (o:=0) rfl
  obtain ⟨e1,_⟩:=cell_new hQ5 (o:=1) rfl
  obtain ⟨e2,_⟩:=cell_new hQ5 (o:=2) rfl
  obtain ⟨e3,_⟩:=cell_new hQ5 (o:=3) rfl
  obtain ⟨c0,f0⟩:=cell_new hR4 (o:=0) rfl
  have hR5:=setCell_new hR4 0 (.int .i64 6)
  obtain ⟨c1,f1⟩:=cell_new hR5 (o:=1) rfl
  have hR6:=setCell_new hR5 1 (.int .i64 1)
  obtain ⟨c2,f2⟩:=cell_new hR6 (o:=2) rfl
  have hR7:=setCell_new hR6 2 (.int .i64 0)
  obtain ⟨c3,f3⟩:=cell_new hR7 (o:=3) rfl
  go_wp2_with (first | (simp only [hmk1]) | (simp only [hcp]))
  refine ping_done rfl rfl rfl (set4_new hR4) ⟨rfl,(set4_old (by omega)).trans ((setCell_old (by omega)).trans hg4),?_⟩
  refine hbel0.trans ⟨hq1,hq2,hq3,Nat.le_of_eq (set4_size.trans (by simp [World.setCell,hs4])).symm,fun k hk=>?_⟩
  exact (set4_old (by omega)).trans ((setCell_old (by omega)).trans (ho4 k (by omega)))
theorem own_frame {F:Fr} {g:Gh} {w w':World} {s:Sig} {tmf:Nat->Value} {k fl sn:Int} {l:List Int} {b:Nat} {y:s.out.D} (hw:F.w0=w) (hlim:∀ b o,g.C b o->b < w.heap.size) (hbel:Below w.heap.size w w') (hb:w.heap.size<=b)
  (hcell:w'.heap[b]? = some (.cells (l.map (Value.int .u8)).toArray 5 (0,0))) (hl8:l.length=8) (hwf:∀ x∈l,(Lit.int .u8 x).wf=true) (hk:(Lit.int .i64 k).wf=true) (hfl:(Lit.int .i64 fl).wf=true) (hsn:(Lit.int .i64 sn).wf=true)
  (hrs:s.rs=[(true,[.d (.int .i64),.d (.int .i64),.d (.int .i64),.own 5 (.int .u8)])]) (hmk:mkLs (Tok.hd 0) s.outs 0 (unpackD s.outTs y)=some [.d (.int .i64) k,.d (.int .i64) fl,.d (.int .i64) sn,.own (.hd 0 3) 5 (.int .u8) l]) :
  ∃ us os,∃ C':Nat->Nat->Prop,∃ blk',Ending.returned (.agg #[.int .i64 k,.int .i64 fl,.int .i64 sn,.slice (some ⟨b,0,none⟩) 8 8])=.returned (retV us) /\ us.length=s.rs.length /\ mkLs (Tok.hd 0) s.outs 0 (unpackD s.outTs y)=some os /\ Below w.heap.size w w' /\
   (∀ b o,b < w.heap.size->(C' b o↔g.C b o)) /\ (∀ b o,C' b o->b < w'.heap.size) /\ blk' .zero=none /\ (∀ k b,blk' k=some b->w.heap.size<=b /\ b < w'.heap.size) /\ (∀ k k' b,blk' k=some b->blk' k'=some b->k=k') /\
   ∀ i,i < s.rs.length->RelP F ⟨⟨C',g.C.i⟩,blk',g.ρ,fun _ _=>[],g.ow,g.ver⟩ w' (exitO s) tmf (us.getD i undef) (resAt s.rs os i):=by
 have hblt:b < w'.heap.size:=(Array.getElem?_eq_some_iff.1 hcell).1
 have hk0:∀ k b',(match tokEq k (.hd 0 3) with | true=>some b | false=>none)=some b'->k=.hd 0 3 /\ b'=b:=fun k b' hk=>by
  cases hq:tokEq k (.hd 0 3) with
  | false=>rw [hq] at hk;cases hk
  | true=>
   rw [hq] at hk
   injection hk with hk
   refine ⟨?_,hk.symm⟩
   cases k with
   | hd d j=>
    have:(Nat.beq d 0&&Nat.beq j 3)=true:=hq
    simp only [Bool.and_eq_true] at this
    rw [Nat.eq_of_beq_eq_true this.1,Nat.eq_of_beq_eq_true this.2]
   | zero=>cases hq
   | op _ _=>cases hq
 have hel:∀ (i:Nat) (x:Int),l[i]? = some x->RepD w' ⟨fun b' o=>g.C b' o \/ (b'=b /\ o < 8),g.C.i⟩ (.int .u8) x (((l.map (Value.int .u8)).toArray.toList.drop (i*(Ty.int .u8).size)).take (Ty.int .u8).size):=fun i x hx=>by
  have hi:i < l.length:=(List.getElem?_eq_some_iff.1 hx).1
  refine ⟨?_,hwf x (List.mem_of_getElem? hx)⟩
  rw [show (Ty.int .u8).size=1 from rfl,Nat.mul_one,List.drop_eq_getElem_cons (by simpa using hi)]
  have:l[i]=x:=(List.getElem?_eq_some_iff.1 hx).2
  simp [this]
 refine ⟨[.agg #[.int .i64 k,.int .i64 fl,.int .i64 sn,.slice (some ⟨b,0,none⟩) 8 8]],[.d (.int .i64) k,.d (.int .i64) fl,.d (.int .i64) sn,.own (.hd 0 3) 5 (.int .u8) l],fun b' o=>g.C b' o \/ (b'=b /\ o < 8),fun k=>match tokEq k (.hd 0 3) with | true=>some b | false=>none,rfl,by rw [hrs];rfl,hmk,hbel,fun b' o hb'=>⟨fun h=>h.elim id fun h=>absurd h.1 (by omega),.inl⟩,fun b' o h=>?_,rfl,fun k b' hk=>?_,fun k k' b' hk hk'=>?_,fun i hi=>?_⟩
 ·rcases h with h | h
  ·exact Nat.lt_of_lt_of_le (hlim b' o h) hbel.size
  ·rw [h.1];exact hblt
 ·obtain ⟨_,rfl⟩:=hk0 k b' hk
  exact ⟨hb,hblt⟩
 ·rw [(hk0 k b' hk).1,(hk0 k' b' hk').1]
 ·rw [hrs] at hi ⊢
  match i,hi with
  | 0,_=>
   have hrepd:RepD w' ⟨fun b' o=>g.C b' o \/ (b'=b /\ o < 8),g.C.i⟩ (.sl (.int .u8)) l [.slice (some ⟨b,0,none⟩) 8 8]:=by
    refine ⟨_,_,_,rfl,hl8,Nat.le_refl _,by unfold maxLen;omega,fun i x hx=>?_⟩
    have hx:l[i]? = some x:=hx
    have hi:i < l.length:=(List.getElem?_eq_some_iff.1 hx).1
    have hr:=hel i x hx
    refine ⟨_,_,rfl,RepD.len hr,fun j u hj=>?_,hr⟩
    have hjl:j < (Ty.int .u8).size:=by
     have h1:=(List.getElem?_eq_some_iff.1 hj).1
     have h2:=RepD.len hr
     omega
    rw [List.getElem?_take,if_pos hjl,List.getElem?_drop] at hj
    rw [add_at]
    refine ⟨?_,.inr ⟨rfl,?_⟩⟩
    ·rw [cell_at hcell,<- Array.getElem?_toList,Nat.zero_add];exact hj
    ·show 0+(i*(Ty.int .u8).size+j) < _
     have:(Ty.int .u8).size=1:=rfl
     rw [this] at hjl ⊢
     omega
   have ti:∀ {x:Int},(Lit.int .i64 x).wf=true->RepL F ⟨⟨fun b' o=>g.C b' o \/ (b'=b /\ o < 8),g.C.i⟩,fun k=>match tokEq k (.hd 0 3) with | true=>some b | false=>none,g.ρ,fun _ _=>[],g.ow,g.ver⟩ w' (exitO s) (.d (.int .i64) x) [.int .i64 x]:=fun h=>⟨rfl,h⟩
   refine ⟨[.int .i64 k,.int .i64 fl,.int .i64 sn,.slice (some ⟨b,0,none⟩) 8 8],?_,rfl⟩
   refine ⟨[_],_,rfl,ti hk,[_],_,rfl,ti hfl,[_],_,rfl,ti hsn,[_],[],rfl,⟨hrepd,fun _=>⟨_,rfl,.inr ⟨b,8,_,congrArg (fun n=>Value.slice (some ⟨b,0,none⟩) n 8) hl8.symm,rfl,hcell,Nat.le_of_eq hl8,by unfold maxLen;omega,by simp [hl8];rfl,?_,?_,?_⟩⟩⟩,rfl⟩
   ·intro i x hx
    exact hel i x hx
   ·intro o
    show (g.C b o \/ (b=b /\ o < 8))↔o < l.length*1
    rw [hl8]
    constructor
    ·rintro (h | h)
     ·have:=hlim _ _ h;omega
     ·exact h.2
    ·intro h;exact .inr ⟨rfl,h⟩
   ·intro o _
    exact .inl (by rw [hw];exact hb)
theorem pingB_len (b:List Int):(pingB b).length=8:=by
 unfold pingB
 rw [List.length_append,List.length_take,List.length_replicate]
 omega
theorem pingB_wf {b:List Int} (h:∀ x∈b,(Lit.int .u8 x).wf=true):∀ x∈pingB b,(Lit.int .u8 x).wf=true:=fun x hx=>by
 rcases List.mem_append.1 hx with hx | hx
 ·exact h x (List.mem_of_mem_take hx)
 ·rw [List.eq_of_mem_replicate hx];rfl
theorem F_part_Ping_sound {T:Tab}:SoundFn Tryz.prog T 53 F_part_Ping_sig ⟨F_part_Ping⟩:=by
 refine sound_of rfl fun F g O xs ls y tmf w args hT hw hlim hls happ hsz hr=>?_
 obtain ⟨(l:List Int),xs',rfl,h2⟩:=appF_inv_c (ts:=[.bool]) happ
 obtain ⟨(ak:Bool),xs'',rfl,h2'⟩:=appF_inv_c (ts:=[]) h2
 obtain ⟨rfl,h3⟩:=appF_inv_n h2'
 have hls':some [Leaf.d (.sl (.int .u8)) l,Leaf.d .bool ak]=some ls:=hls
 injection hls' with hls'
 subst hls'
 obtain ⟨a,n,c,e0,e1,e2,e3,e4,e5,e6⟩:=rel_ints (hr 0)
 have e7:args.getD 1 undef=.bool ak:=by
  have:=rel_leaf.1 (hr 1)
  injection this
 rw [args_2 hsz,e0,e7]
 have h3:some (pingF l ak)=some y:=h3
 have hy:pingF l ak=y:=by injection h3
 subst hy
 refine (ping_walk a n c l ak w e1 e5 e6).mono ?_
 rintro e w' ⟨rfl,h1,h2⟩
 exact own_frame hw hlim h2 (Nat.le_succ _) h1 (pingB_len l) (pingB_wf e4) rfl (by cases ak <;> rfl) rfl rfl rfl
theorem F_wlvref10_Ping_sound {T:Tab}:SoundFn Tryz.prog T 36 F_wlvref10_Ping_sig ⟨F_wlvref10_Ping⟩:=by
 refine sound_of rfl fun F g O xs ls y tmf w args hT hw hlim hls happ hsz hr=>?_
 obtain ⟨(l:List Int),xs',rfl,h2⟩:=appF_inv_c (ts:=[.bool]) happ
 obtain ⟨(ak:Bool),xs'',rfl,h2'⟩:=appF_inv_c (ts:=[]) h2
 obtain ⟨rfl,h3⟩:=appF_inv_n h2'
 have hls':some [Leaf.d (.sl (.int .u8)) l,Leaf.d .bool ak]=some ls:=hls
 injection hls' with hls'
 subst hls'
 obtain ⟨a,n,c,e0,e1,e2,e3,e4,e5,e6⟩:=rel_ints (hr 0)
 have e7:args.getD 1 undef=.bool ak:=by
  have:=rel_leaf.1 (hr 1)
  injection this
 rw [args_2 hsz,e0,e7]
 have h3:some (pingF l ak)=some y:=h3
 have hy:pingF l ak=y:=by injection h3
 subst hy
 refine (rping_walk a n c l ak w e1 e5 e6).mono ?_
 rintro e w' ⟨rfl,h1,h2⟩
 exact own_frame hw hlim h2 (Nat.le_succ _) h1 (pingB_len l) (pingB_wf e4) rfl (by cases ak <;> rfl) rfl rfl rfl
end Go.Proofs.YtifbhefbhlbofaaGreatDoor
namespace Go.Proofs
open Go.Shelf
def Tryz.cnKeys_ren:Go.Shelf.Ren:=⟨fun | 7=>77 | 10=>134 | n=>n,fun | 23=>121 | 26=>3 | 3=>137 | 28=>135 | 0=>0 | 27=>134 | 33=>63 | 4=>4 | n=>n,fun | n=>n⟩
theorem Tryz.cnKeys:Go.Proofs.SlLaysZI.n7 Tryz.prog Tryz.cnKeys_ren:={
 mixed:=by kernel_rfl
 f7:=⟨Tryz.f77.name,by decide,Tryz.func77.trans (congrArg some (by kernel_rfl))⟩
 f10:=⟨Tryz.f134.name,by decide,Tryz.func134.trans (congrArg some (by kernel_rfl))⟩
 t0:=Tryz.underlying0
 a0:=Tryz.isAgg0
 z0:=Tryz.sizeOf0
 v0:=Tryz.zeroValue0
 t4:=Tryz.underlying4
 a4:=Tryz.isAgg4
 z4:=Tryz.sizeOf4
 v4:=Tryz.zeroValue4
 t23:=Tryz.underlying121
 a23:=Tryz.isAgg121
 z23:=Tryz.sizeOf121
 v23:=Tryz.zeroValue121
 t26:=Tryz.underlying3
 a26:=Tryz.isAgg3
 z26:=Tryz.sizeOf3
 v26:=Tryz.zeroValue3
 t27:=Tryz.underlying134
 a27:=Tryz.isAgg134
 z27:=Tryz.sizeOf134
 v27:=Tryz.zeroValue134
 t28:=Tryz.underlying135
 a28:=Tryz.isAgg135
 z28:=Tryz.sizeOf135
 v28:=Tryz.zeroValue135
 t33:=Tryz.underlying63
 a33:=Tryz.isAgg63
 z33:=Tryz.sizeOf63
 v33:=Tryz.zeroValue63 }
def Tryz.cnSorted_ren:Go.Shelf.Ren:=⟨fun | 6=>76 | 8=>132 | 9=>133 | 11=>167 | 13=>169 | 12=>168 | 23=>198 | 24=>199 | 14=>189 | 15=>190 | 16=>191 | 17=>192 | 18=>193 | 19=>194 | 20=>195 | 21=>196 | 22=>197 | 25=>207 | 26=>208 | 27=>209 | 28=>210 | 29=>211 | 30=>212 | 31=>222 | n=>n,fun | 26=>3 | 28=>135 | 24=>47 | 0=>0 | 3=>3 | 37=>114 | 48=>240 | 50=>242 | 4=>4 | 40=>234 | 39=>233 | 45=>77 | 5=>5 | 9=>9 | 51=>254 | 55=>258 | 57=>266 | 58=>217 | 33=>63 | n=>n,fun | n=>n⟩
theorem Tryz.cnSorted:Go.Proofs.SlLaysZI.n6 Tryz.prog Tryz.cnSorted_ren:={
 mixed:=by kernel_rfl
 f6:=⟨Tryz.f76.name,by decide,Tryz.func76.trans (congrArg some (by kernel_rfl))⟩
 f8:=⟨Tryz.f132.name,by decide,Tryz.func132.trans (congrArg some (by kernel_rfl))⟩
 f11:=⟨Tryz.f167.name,by decide,Tryz.func167.trans (congrArg some (by kernel_rfl))⟩
 t0:=Tryz.underlying0
 a0:=Tryz.isAgg0
 z0:=Tryz.sizeOf0
 v0:=Tryz.zeroValue0
 t24:=Tryz.underlying47
 a24:=Tryz.isAgg47
 z24:=Tryz.sizeOf47
 v24:=Tryz.zeroValue47
 t26:=Tryz.underlying3
 a26:=Tryz.isAgg3
 z26:=Tryz.sizeOf3
 v26:=Tryz.zeroValue3
 t28:=Tryz.underlying135
 a28:=Tryz.isAgg135
 z28:=Tryz.sizeOf135
 v28:=Tryz.zeroValue135
 i26:=by kernel_rfl }
def Tryz.cnSort_ren:Go.Shelf.Ren:=⟨fun | 5=>133 | 8=>169 | 7=>168 | 19=>198 | 20=>199 | 10=>189 | 11=>190 | 12=>191 | 13=>192 | 14=>193 | 15=>194 | 16=>195 | 17=>196 | 18=>197 | 30=>207 | 31=>208 | 32=>209 | 33=>210 | 34=>211 | 35=>212 | 40=>222 | n=>n,fun | 23=>47 | 25=>3 | 3=>3 | 32=>114 | 22=>47 | 0=>0 | 44=>240 | 46=>242 | 4=>4 | 36=>234 | 35=>233 | 41=>77 | 5=>5 | 9=>9 | 53=>254 | 57=>258 | 63=>266 | 64=>217 | n=>n,fun | n=>n⟩
theorem Tryz.cnSort:Go.Proofs.SlLaysM.n5 Tryz.prog Tryz.cnSort_ren:={
 mixed:=by kernel_rfl
 f5:=⟨Tryz.f133.name,by decide,Tryz.func133.trans (congrArg some (by kernel_rfl))⟩
 f7:=⟨Tryz.f168.name,by decide,Tryz.func168.trans (congrArg some (by kernel_rfl))⟩
 f8:=Tryz.func169.trans (congrArg some (by kernel_rfl))
 f10:=⟨Tryz.f189.name,by decide,Tryz.func189.trans (congrArg some (by kernel_rfl))⟩
 f11:=⟨Tryz.f190.name,by decide,Tryz.func190.trans (congrArg some (by kernel_rfl))⟩
 f12:=⟨Tryz.f191.name,by decide,Tryz.func191.trans (congrArg some (by kernel_rfl))⟩
 f13:=⟨Tryz.f192.name,by decide,Tryz.func192.trans (congrArg some (by kernel_rfl))⟩
 f14:=⟨Tryz.f193.name,by decide,Tryz.func193.trans (congrArg some (by kernel_rfl))⟩
 f15:=⟨Tryz.f194.name,by decide,Tryz.func194.trans (congrArg some (by kernel_rfl))⟩
 f16:=⟨Tryz.f195.name,by decide,Tryz.func195.trans (congrArg some (by kernel_rfl))⟩
 f17:=⟨Tryz.f196.name,by decide,Tryz.func196.trans (congrArg some (by kernel_rfl))⟩
 f18:=⟨Tryz.f197.name,by decide,Tryz.func197.trans (congrArg some (by kernel_rfl))⟩
 f19:=Tryz.func198.trans (congrArg some (by kernel_rfl))
 f20:=Tryz.func199.trans (congrArg some (by kernel_rfl))
 f30:=⟨Tryz.f207.name,by decide,Tryz.func207.trans (congrArg some (by kernel_rfl))⟩
 f31:=Tryz.func208.trans (congrArg some (by kernel_rfl))
 f32:=Tryz.func209.trans (congrArg some (by kernel_rfl))
 f33:=⟨Tryz.f210.name,by decide,Tryz.func210.trans (congrArg some (by kernel_rfl))⟩
 f34:=⟨Tryz.f211.name,by decide,Tryz.func211.trans (congrArg some (by kernel_rfl))⟩
 f35:=⟨Tryz.f212.name,by decide,Tryz.func212.trans (congrArg some (by kernel_rfl))⟩
 f40:=⟨Tryz.f222.name,by decide,Tryz.func222.trans (congrArg some (by kernel_rfl))⟩
 t0:=Tryz.underlying0
 a0:=Tryz.isAgg0
 z0:=Tryz.sizeOf0
 v0:=Tryz.zeroValue0
 t3:=Tryz.underlying3
 a3:=Tryz.isAgg3
 z3:=Tryz.sizeOf3
 v3:=Tryz.zeroValue3
 t4:=Tryz.underlying4
 a4:=Tryz.isAgg4
 z4:=Tryz.sizeOf4
 v4:=Tryz.zeroValue4
 t5:=Tryz.underlying5
 a5:=Tryz.isAgg5
 z5:=Tryz.sizeOf5
 v5:=Tryz.zeroValue5
 t9:=Tryz.underlying9
 a9:=Tryz.isAgg9
 z9:=Tryz.sizeOf9
 v9:=Tryz.zeroValue9
 t22:=Tryz.underlying47
 a22:=Tryz.isAgg47
 z22:=Tryz.sizeOf47
 v22:=Tryz.zeroValue47
 t23:=Tryz.underlying47
 a23:=Tryz.isAgg47
 z23:=Tryz.sizeOf47
 v23:=Tryz.zeroValue47
 t25:=Tryz.underlying3
 a25:=Tryz.isAgg3
 z25:=Tryz.sizeOf3
 v25:=Tryz.zeroValue3
 t32:=Tryz.underlying114
 a32:=Tryz.isAgg114
 z32:=Tryz.sizeOf114
 v32:=Tryz.zeroValue114
 t35:=Tryz.underlying233
 a35:=Tryz.isAgg233
 z35:=Tryz.sizeOf233
 v35:=Tryz.zeroValue233
 t36:=Tryz.underlying234
 a36:=Tryz.isAgg234
 z36:=Tryz.sizeOf234
 v36:=Tryz.zeroValue234
 t41:=Tryz.underlying77
 a41:=Tryz.isAgg77
 z41:=Tryz.sizeOf77
 v41:=Tryz.zeroValue77
 t44:=Tryz.underlying240
 a44:=Tryz.isAgg240
 z44:=Tryz.sizeOf240
 v44:=Tryz.zeroValue240
 t46:=Tryz.underlying242
 a46:=Tryz.isAgg242
 z46:=Tryz.sizeOf242
 v46:=Tryz.zeroValue242
 t53:=Tryz.underlying254
 a53:=Tryz.isAgg254
 z53:=Tryz.sizeOf254
 v53:=Tryz.zeroValue254
 t57:=Tryz.underlying258
 a57:=Tryz.isAgg258
 z57:=Tryz.sizeOf258
 v57:=Tryz.zeroValue258
 t63:=Tryz.underlying266
 a63:=Tryz.isAgg266
 z63:=Tryz.sizeOf266
 v63:=Tryz.zeroValue266
 t64:=Tryz.underlying217
 a64:=Tryz.isAgg217
 z64:=Tryz.sizeOf217
 v64:=Tryz.zeroValue217 }
end Go.Proofs
namespace Go.Proofs.YtifbhefbhlbofaaGreatDoor
open Go.RowKit Go.Maps Go.Sort Go.Shelf Go.Lib Pv
set_option linter.unusedVariables false
namespace Pv
theorem parK_v:∀ {ps:List Par} {ls:List Leaf} (i:Nat),ps.all Par.isv=true->parK ps ls i=none
 | [],_,_,_=>rfl
 | .v _ _::_,_,0,_=>rfl
 | .v b ts::ps,ls,i+1,h=>parK_v (ps:=ps) (ls:=ls.drop (Par.v b ts).ts.length) i (by simpa [Par.isv] using h)
 | .m _::_,_,_,h=>by simp [Par.isv] at h
theorem sound_ofP {P:Program} {T:Tab} {f:FuncId} {s:Sig} {fn:s.Fn} (hp:s.ps.all Par.isv=true)
    (H:∀ (F:Fr) (g:Gh) (O:Tok->Bool) (xs:List Dat) (ls:List Leaf) (pl:List (Nat×List Leaf)) (y:s.out.D) (tmf:Nat->Value) (w:World) (args:Array Value),(∀ p∈T,∃ ty fr,w.heap[p.1]? = some (.cells p.2 ty fr))->F.w0=w->(∀ b o,g.C b o->b < w.heap.size)->mkLs (Tok.hd 0) (parsT s.ps) 0 (xs.take (parsT s.ps).length)=some ls->mkPools s.pls (xs.drop (parsT s.ps).length)=some pl->(∀ k σ x,findL pl k=some (σ,x)->isPool k=true->PoolOk F g w x k)->appF s.ins fn.f xs=some y->args.size=s.ps.length ->
      (∀ i,RelP F g w O tmf (args.getD i undef) (parP s.ps ls i))->Calls P f args w fun e w'=>∃ us os,∃ C':Nat->Nat->Prop,∃ blk',e=.returned (retV us) /\ us.length=s.rs.length /\ mkLs (Tok.hd 0) s.outs 0 (unpackD s.outTs y)=some os /\ Below w.heap.size w w' /\
        (∀ b o,b < w.heap.size->(C' b o↔g.C b o)) /\ (∀ b o,C' b o->b < w'.heap.size) /\ blk' .zero=none /\ (∀ k b,blk' k=some b->w.heap.size<=b /\ b < w'.heap.size) /\ (∀ k k' b,blk' k=some b->blk' k'=some b->k=k') /\
        ∀ i,i < s.rs.length->RelP F ⟨⟨C',g.C.i⟩,blk',g.ρ,fun _ _=>[],g.ow,g.ver⟩ w' (exitO s) tmf (us.getD i undef) (resAt s.rs os i)) (hpls:wPls s.pls=[]):SoundFn P T f s fn:=by
  intro F g st xs y tmf w args hT hent happ hrel hw hPT hn hsz htm
  unfold entrySt at hent
  split at hent
  case h_1=>cases hent
  case h_2=>cases hent
  rename_i ls pl hls hpl
  injection hent with hent
  have hφ:∀ i,st.φ i=parP s.ps ls i:=fun i=>by
    rw [<-hent]
    show (match isM s.ps i with | true=>PV.loc i 0 | false=>parP s.ps ls i)=_
    rw [isM_v i hp]
  refine (H F g st.O xs ls pl y tmf w args (fun p hp => (tab_now hT hrel.fr p hp).1) hw hrel.fr.lim hls hpl (fun k σ x hk hk2 => hrel.pools k σ x (by
      rw [<-hent]
      show (match parK s.ps ls k with | some l=>some ((0:Nat),l) | none=>findL pl k)=_
      rw [parK_v k hp]
      exact hk) hk2) happ hsz fun i=>?_).mono ?_
  · have:=hrel.slots i
    rw [hφ,htm] at this
    exact this
  · rintro e w' ⟨us,os,C',blk',he,hus,hos,hbel,hC,hlim,hb0,hbk,hbi,hres⟩
    refine ⟨us,⟨⟨C',g.C.i⟩,blk',g.ρ,fun _ _=>[],g.ow,g.ver⟩,⟨resAt s.rs os,fun _=>none,exitO s,[],[],[]⟩,he,hus,?_,?_,fun k hk=>absurd ((isM_v k hp).symm.trans hk) (by decide)⟩
    · unfold exitSt
      have hol:=mkLs_len hos
      rw [List.take_of_length_le (Nat.le_of_eq hol),List.drop_of_length_le (Nat.le_of_eq hol),hos,hpls]
      show some (PSt.mk (resAt s.rs os) (fun k=>match inoutAt s.ps (os.drop s.nres) k with | some l=>some ((0:Nat),l) | none=>findL [] k) (exitO s) [] [] [])=some (PSt.mk (resAt s.rs os) (fun _=>none) (exitO s) [] [] [])
      congr 2
      funext k
      rw [inoutAt_v k hp]
      rfl
    · have hfr:=hrel.fr
      have h00:F.w0.heap.size<=w.heap.size:=hfr.size
      refine ⟨?_,fun i=>?_,fun k σ ls hl=>(by cases hl),fun k σ ls hl=>(by cases hl),fun k σ ls hl=>(by cases hl),fun t b hk=>(by cases hk),fun i t want ag ls hs=>?_,fun d hd=>(by cases hd),fun i k hk=>?_,hb0,fun k k' b _ _ h1 h2=>hbi k k' b h1 h2,fun k b j x _ _ hj=>(nomatch hj),fun k b _ h=>(hbk k b h).2,fun k b _ h=>.inl (Nat.le_trans h00 (hbk k b h).1),fun j j' x x' hj=>(nomatch hj),⟨fun t b _ hb=>?_,fun k x hx=>(nomatch hx),fun b o h'=>Nat.lt_of_lt_of_le (hrel.ows.lim b o h') hbel.size,hrel.ows.fr,hrel.ows.mono,hrel.ows.i,fun b k j s h' hpt=>?_⟩⟩
      · have hf2:=hfr.below hbel
        refine ⟨hf2.size,hf2.os,hf2.tape,hf2.output,hf2.old,hf2.shape,fun b o hb hx=>?_,fun b o h=>?_,hf2.imono,hlim⟩
        · exact (hC b o (Nat.lt_of_lt_of_le hb h00)).trans (hfr.com b o hb hx)
        · have hgc:=hfr.mono b o h
          exact (hC b o (hfr.lim b o hgc)).2 hgc
      · show RelP F ⟨⟨C',g.C.i⟩,blk',g.ρ,fun _ _=>[],g.ow,g.ver⟩ w' (exitO s) (fun i=>us.getD i undef) (us.getD i undef) (resAt s.rs os i)
        rcases Nat.lt_or_ge i s.rs.length with hi | hi
        · have h:=hres i hi
          rcases resAt_w (rs:=s.rs) (ls:=os) i with ⟨ag,os',e⟩ | e
          · rw [e] at h ⊢;exact h
          · rw [e];trivial
        · rw [resAt_out hi];trivial
      · have hs:resAt s.rs os i=.spec t want ag ls:=hs
        rcases resAt_w (rs:=s.rs) (ls:=os) i with ⟨ag,os',e⟩ | e
        · rw [e] at hs;cases hs
        · rw [e] at hs;cases hs
      · have hk:k∈keyP (resAt s.rs os i):=hk
        rcases resAt_w (rs:=s.rs) (ls:=os) i with ⟨ag,os',e⟩ | e
        · rw [e] at hk;cases hk
        · rw [e] at hk;cases hk
      · have h1:=(hbk t b hb).1
        cases h2:g.ow b with
        | none=>rfl
        | some o=>
          have:=hrel.ows.lim b o h2
          omega
      · obtain ⟨e,he⟩:=(hPT k).1 hpt
        have he':=wPls_mem.2 ⟨rfl,he⟩
        rw [hpls] at he'
        cases he'
end Pv
theorem own_empty {w:World} {b clock:Nat} (hb:w.heap[b]? = some (.map #[] clock)):w.ownsMap (H:=Unit) Tryz.prog 3 (fun _=>none) b 0 (.map []):=
 ⟨#[],clock,hb,⟨Nat.zero_le _,⟨by simp,by simp⟩,fun x hx=>by simp at hx⟩,Nat.le_refl _,rfl⟩
theorem cnSorts (m:Nat):AnyZI.SortsIn Tryz.prog Tryz.cnSorted_ren Fence.wide m:=
  ⟨fun blk off cap ss W hH hblk hsz=>callsIn_wide.2 (AnyM.slices_Sort_int Tryz.cnSort blk off cap ss W hH hblk hsz),
   fun p cap W=>callsIn_wide.2 (AnyM.slices_Sort_int_none Tryz.cnSort p cap W)⟩
theorem idx_calls (fv:Value) (w:World):Calls Tryz.prog 131 #[.slice none 0 0,fv] w fun e w'=>e=.returned (.int .i64 (-1)) /\ w'=w:=by
 go_enter Tryz.func131,Tryz.ntmps131
 go_wp2
 go_loopw [8] (fun v wr=>v=.int .i64 0 /\ wr=w) (fun _ _=>1)
 case atStart=>exact ⟨rfl,rfl⟩
 case round=>
  obtain ⟨rfl,rfl⟩:=hrel
  go_wp2
  go_ret
  exact ⟨rfl,rfl⟩
theorem del_calls (fv:Value) (w:World):Calls Tryz.prog 75 #[.slice none 0 0,fv] w fun e w'=>e=.returned (.slice none 0 0) /\ w'=w:=by
 go_enter Tryz.func75,Tryz.ntmps75
 go_wp2_with (go_at_call 131;(with_reducible refine (idx_calls _ _).mono ?_);rintro e w1 ⟨rfl,hw1⟩;rw [hw1])
 go_ret
 exact ⟨rfl,rfl⟩
set_option maxHeartbeats 4000000 in
set_option maxRecDepth 1000000 in
theorem open_walk (cb mb clock:Nat) (w:World) (hcell:w.cell? ⟨cb,19,none⟩=some (.map (some mb))) (hm:w.heap[mb]? = some (.map #[] clock)) :
  Calls Tryz.prog 30 #[.pointer (some ⟨cb,0,none⟩)] w fun e w'=>e=.returned (.slice none 0 0) /\ Below w.heap.size w w':=by
 refine (callsIn_wide (n:=6)).1 ?_
 have hbl:mb < w.heap.size:=(Array.getElem?_eq_some_iff.1 hm).1
 have hs1:(w.alloc (.cells #[.pointer (some ⟨cb,0,none⟩)] 48)).heap.size=w.heap.size+1:=by simp
 have hcell1:(w.alloc (.cells #[.pointer (some ⟨cb,0,none⟩)] 48)).cell? ⟨cb,19,none⟩=some (.map (some mb)):=Go.Lib.cell?_alloc_some _ hcell
 have hm1:(w.alloc (.cells #[.pointer (some ⟨cb,0,none⟩)] 48)).heap[mb]? = some (.map #[] clock):=(Below.heap_alloc _ _ mb hbl).trans hm
 have hseq:SeqGives Fence.wide 2 Tryz.prog 134 #[.pointer (some ⟨(w.alloc (.cells #[.pointer (some ⟨cb,0,none⟩)] 48)).heap.size,0,none⟩)] encZ (fun ss=>ss.Perm (intKeys (.map []:DataW Unit))) (Maps.size (.map []:DataW Unit)) ((w.alloc (.cells #[.pointer (some ⟨cb,0,none⟩)] 48)).alloc (.cells #[.map (some mb)] 121)):=
  AnyZI.keys_gives (ρ:=Tryz.cnKeys_ren) { Tryz.cnKeys with } Fence.wide _ trivial rfl (by omega) (w.alloc (.cells #[.pointer (some ⟨cb,0,none⟩)] 48)).heap.size mb 0 _ _ (by simp) (by simp) (own_empty ((Below.heap_alloc _ _ mb (by omega)).trans hm1))
 have cK:∀ mb W,CallsIn Fence.wide 5 Tryz.prog 77 #[.map mb] W fun e w'=>e=.returned (.func (.func 134) #[] #[.pointer (some ⟨W.heap.size,0,none⟩)]) /\ w'=W.alloc (.cells #[.map mb] 121):=fun mb W=>AnyZI.keys_in Tryz.cnKeys Fence.wide 5 trivial rfl mb W
 have cS:=AnyZI.sorted_in Tryz.cnSorted Fence.wide 5 trivial trivial trivial trivial rfl (by omega) (cnSorts _) (enters_of Tryz.func133 (by kernel_rfl) rfl) 134 #[.pointer (some ⟨(w.alloc (.cells #[.pointer (some ⟨cb,0,none⟩)] 48)).heap.size,0,none⟩)] trivial (enters_of Tryz.func134 (by kernel_rfl) rfl) _ _ (by decide) (by decide) _ hseq
 change CallsIn _ _ Tryz.prog 76 _ _ _ at cS
 rw [hs1] at cS
 have cD:∀ fv W,CallsIn Fence.wide 5 Tryz.prog 75 #[.slice none 0 0,fv] W fun e w'=>e=.returned (.slice none 0 0) /\ w'=W:=fun fv W=>callsIn_wide.2 (del_calls fv W)
 have hfK:Fence.wide.fn 77:=trivial
 have hfS:Fence.wide.fn 76:=trivial
 have hfD:Fence.wide.fn 75:=trivial
 refine callsIn_of_wp Tryz.func30 rfl trivial ?_ rfl
 simp only [Tryz.ntmps30,List.size_toArray,List.length_cons,List.length_nil,Nat.reduceAdd,Nat.reduceSub,Array.replicate_succ,Array.replicate_zero,List.push_toArray,List.append_toArray,List.nil_append,List.cons_append]
 gi_wp2_with (first
  | (gi_at_call 77;refine (cK _ _).mono ?_;rintro e w' ⟨rfl,rfl⟩)
  | (gi_at_call 76;refine cS.mono ?_;rintro e w' ⟨v,ss,rfl,hS,hrow,hnil,hb⟩;obtain rfl:v=.slice none 0 0:=hnil.2 (List.Perm.eq_nil hS);clear hnil hrow hS)
  | (gi_at_call 75;refine (cD _ _).mono ?_;rintro e w' ⟨rfl,rfl⟩))
 go_ret
 exact ⟨rfl,(((Below.refl _ w).alloc (Nat.le_refl _) _).alloc (by rw [hs1];omega) _).trans (hb.mono (by simp;omega))⟩
theorem pool_item {F:Fr} {g:Gh} {w:World} {k:Nat} {e:Ty} {l:List e.D} (h:PoolOk F g w [.d (.sl e) l] k) {j:Nat} {x:e.D} (hx:l[j]? = some x):ItemOk g w k e j x:=by
 obtain ⟨e',l',h1,h2,h3⟩:=h
 rcases h1 with ⟨v,h1,_⟩ | h1
 ·cases h1
 ·cases h1;exact h3 j x hx
theorem getI_inv {α:Type} {l:List α} {p:Int} {x:α} (h:getI l p=some x):∃ n:Nat,p=(n:Int) /\ l[n]? = some x:=by
 unfold getI at h
 cases hd:decide (0<=p) with
 | false=>rw [hd] at h;cases h
 | true=>
  rw [hd,cond_true] at h
  have:=of_decide_eq_true hd
  exact ⟨p.toNat,by omega,h⟩
theorem conn_map {w:World} {C:Com} {c:CnC} {cs:List Value} (h:RepD w C cnCt c cs):∃ q,RepP C (mk 121) c.2.2.2.2.2.2.2.2.2.1 q /\ cs[19]? = some (.map q):=by
 obtain ⟨r1,s1,rfl,h1,k1⟩:=h
 obtain ⟨r2,s2,rfl,h2,k2⟩:=k1
 obtain ⟨r3,s3,rfl,h3,k3⟩:=k2
 obtain ⟨r4,s4,rfl,h4,k4⟩:=k3
 obtain ⟨r5,s5,rfl,h5,k5⟩:=k4
 obtain ⟨r6,s6,rfl,h6,k6⟩:=k5
 obtain ⟨r7,s7,rfl,h7,k7⟩:=k6
 obtain ⟨r8,s8,rfl,h8,k8⟩:=k7
 obtain ⟨r9,s9,rfl,h9,k9⟩:=k8
 obtain ⟨rA,sA,rfl,hA,kA⟩:=k9
 obtain ⟨q,hq,rfl⟩:=hA
 refine ⟨q,hq,?_⟩
 have l1:r1.length=6:=RepD.len h1
 have l2:r2.length=1:=RepD.len h2
 have l3:r3.length=6:=RepD.len h3
 have l4:r4.length=1:=RepD.len h4
 have l5:r5.length=1:=RepD.len h5
 have l6:r6.length=1:=RepD.len h6
 have l7:r7.length=1:=RepD.len h7
 have l8:r8.length=1:=RepD.len h8
 have l9:r9.length=1:=RepD.len h9
 rw [List.getElem?_append_right (by omega),List.getElem?_append_right (by omega),List.getElem?_append_right (by omega),List.getElem?_append_right (by omega),List.getElem?_append_right (by omega),List.getElem?_append_right (by omega),List.getElem?_append_right (by omega),List.getElem?_append_right (by omega),List.getElem?_append_right (by omega),l1,l2,l3,l4,l5,l6,l7,l8,l9]
 rfl
theorem F_conn_Conn_Open_sound {T:Tab}:SoundFn Tryz.prog T 30 F_conn_Conn_Open_sig ⟨F_conn_Conn_Open⟩:=by
 refine sound_ofP rfl (fun F g O xs ls pl y tmf w args hT hw hlim hls hpl hpo happ hsz hr=>?_) rfl
 obtain ⟨(p:Int),xs1,rfl,h2⟩:=appF_inv_c (ts:=[.sl cnMt,.sl cnCt,.sl cnSt]) happ
 obtain ⟨(M:List CnM),xs2,rfl,h3⟩:=appF_inv_c (ts:=[.sl cnCt,.sl cnSt]) h2
 obtain ⟨(C:List CnC),xs3,rfl,h4⟩:=appF_inv_c (ts:=[.sl cnSt]) h3
 obtain ⟨(S:List CnS),xs4,rfl,h5⟩:=appF_inv_c (ts:=[]) h4
 obtain ⟨rfl,h6⟩:=appF_inv_n h5
 have hls':some [Leaf.d (.ptr 126) p]=some ls:=hls
 injection hls' with hls'
 subst hls'
 have hpl':some [(mk 121,[Leaf.d (.sl cnMt) M]),(pk 126,[Leaf.d (.sl cnCt) C]),(pk 139,[Leaf.d (.sl cnSt) S])]=some pl:=hpl
 injection hpl' with hpl'
 subst hpl'
 have pM:=hpo (mk 121) 0 _ rfl (isPool_mk _)
 have pC:=hpo (pk 126) 0 _ rfl (isPool_pk _)
 have h6:F_conn_Conn_Open p M C S=some y:=h6
 unfold F_conn_Conn_Open at h6
 obtain ⟨c,hc,h6⟩:=Option.bind_eq_some_iff.1 h6
 obtain ⟨m,hm,h6⟩:=Option.bind_eq_some_iff.1 h6
 obtain ⟨n,rfl,hcn⟩:=getI_inv hc
 obtain ⟨mi,hmi,hmn⟩:=getI_inv hm
 cases m with
 | cons a l=>cases h6
 | nil=>
  have hy:([]:List Int)=y:=by injection h6
  subst hy
  have iC:=pool_item pC hcn
  unfold ItemOk at iC
  rw [isMapK_pk] at iC
  obtain ⟨cb,cur,TT,fr,j1,j2,j3,j4,_⟩:=iC
  have iM:=pool_item pM hmn
  unfold ItemOk at iM
  rw [isMapK_mk] at iM
  obtain ⟨mb,es,clock,m1,m2,m3,m4,m5⟩:=iM
  have hes:es = #[]:=by
   have h0:es.toList.length=0:=m5.1
   exact Array.eq_empty_of_size_eq_zero (by simpa using h0)
  subst hes
  obtain ⟨q,hq,hcq⟩:=conn_map j4
  have hq':q=some mb:=by
   rcases hq with ⟨e1,_⟩ | ⟨jj,b,e1,e2,e3⟩
   ·rw [hmi] at e1
    have e1:(mi:Int) = -1:=e1
    omega
   ·rw [hmi] at e1
    have e1:(mi:Int)=(jj:Int):=e1
    have:mi=jj:=by omega
    subst this
    rw [m1] at e2
    cases e2
    exact e3
  subst hq'
  have e0:args.getD 0 undef=.pointer (some ⟨cb,0,none⟩):=by
   obtain ⟨pp,h1,h2⟩:=rel_leaf.1 (hr 0)
   have h2:args.getD 0 undef=.pointer (pp.map fun b=>⟨b,0,none⟩):=by injection h2
   rw [h2]
   rcases h1 with ⟨e1,_⟩ | ⟨jj,b,e1,e2,e3⟩
   ·have e1:(n:Int) = -1:=e1
    omega
   ·have e1:(n:Int)=(jj:Int):=e1
    have:n=jj:=by omega
    subst this
    rw [j1] at e2
    cases e2
    rw [e3];rfl
  rw [args_1 hsz,e0]
  have hcell:w.cell? ⟨cb,19,none⟩=some (.map (some mb)):=by
   rw [cell_at j3,<- Array.getElem?_toList]
   exact hcq
  refine (open_walk cb mb clock w hcell m3).mono ?_
  rintro e w' ⟨rfl,hbel⟩
  exact own_nil hlim hbel rfl rfl
end Go.Proofs.YtifbhefbhlbofaaGreatDoor
namespace Go.Proofs.YtifbhefbhlbofaaGreatDoor
open Go.RowKit Go.Lib Pv
set_option linter.unusedVariables false

set_option maxHeartbeats 4000000 in
set_option maxRecDepth 1000000 in
theorem scl_at (a:Addr) (n c:Nat) (l:List Int) (w:World) (hl:l.length=n) (hbig:n<=140737488355328) (hc:∀ (i:Nat) x,l[i]? = some x->w.cell? (a.add i)=some (.int .u8 x)) :
  Calls Tryz.prog 57 #[.slice (some a) n c] w fun e w'=>∃ v',e=.returned v' /\ w'.ownsRow w.heap.size 5 1 v' n (l.map (Value.int .u8)) /\ Below w.heap.size w w':=by
 obtain ⟨i0,hi,hz0,hz1,hz2⟩:=info_parts infoU
 have q22:∀ (w:World) (a:Option Addr) (n c n' c':Nat),(binOp .eql 32 (.slice a n c) (.slice none n' c')).run Tryz.prog w=.ok (.bool a.isNone) w:=fun w a n c n' c'=>Lib.run_eql_slice_nil w _ _ a n c n' c' Tryz.underlying32
 have A:Aside (∀ (i:Nat) x,l[i]? = some x->w.cell? (a.add i)=some (.int .u8 x)):=hc
 clear hc
 go_enter Tryz.func57,Tryz.ntmps57
 go_wp2_with (at_builtin;refine wpList_append_own _ rfl _ _ 32 rfl w.heap.size 5 i0 (.int .u8 0) 1 1 Tryz.underlying32 hi hz0 hz1 hz2 rfl (by decide) _ _ _ rfl (World.ownsRow_made w #[] 0 (Nat.le_refl _) (Nat.zero_le _) rfl) a n c (l.map (Value.int .u8)) rfl ?qc1 ?qc2 ?qc3 ?qc4 ?qc5 ?qc6 ?_)
 case qc1=>simp;omega
 case qc2=>
  intro j u hj
  rw [List.getElem?_map] at hj
  obtain ⟨x,hx,rfl⟩:=Option.map_eq_some_iff.1 hj
  exact Lib.cell?_alloc_some _ (A.out j x hx)
 case qc3=>intro u hu;obtain ⟨x,_,rfl⟩:=List.mem_map.1 hu;rfl
 case qc4=>unfold maxLen;omega
 case qc5=>omega
 case qc6=>simp
 intro v' w1 hown hgrow hnil
 go_wp2
 go_ret
 exact ⟨v',rfl,by simpa using hown,((Below.refl _ w).alloc (Nat.le_refl _) _).grown hgrow (by simp) (by intro k hk;simp [Value.ownBlock] at hk;omega)⟩
set_option maxHeartbeats 4000000 in
theorem scl_nil (n c:Nat) (w:World):Calls Tryz.prog 57 #[.slice none n c] w fun e w'=>e=.returned (.slice none 0 0) /\ w'=w:=by
 have q22:∀ (w:World) (a:Option Addr) (n c n' c':Nat),(binOp .eql 32 (.slice a n c) (.slice none n' c')).run Tryz.prog w=.ok (.bool a.isNone) w:=fun w a n c n' c'=>Lib.run_eql_slice_nil w _ _ a n c n' c' Tryz.underlying32
 go_enter Tryz.func57,Tryz.ntmps57
 go_wp2
 go_ret
 exact ⟨rfl,rfl⟩
theorem F_slices_Clone_byte_byte_sound {T:Tab}:SoundFn Tryz.prog T 57 F_slices_Clone_byte_byte_sig ⟨F_slices_Clone_byte_byte⟩:=by
 refine sound_of rfl fun F g O xs ls y tmf w args hT hw hlim hls happ hsz hr=>?_
 obtain ⟨(l:List Int),xs',rfl,h2⟩:=appF_inv_c (ts:=[]) happ
 obtain ⟨rfl,h3⟩:=appF_inv_n h2
 have hls':some [Leaf.d (.sl (.int .u8)) l]=some ls:=hls
 injection hls' with hls'
 subst hls'
 obtain ⟨a,n,c,e0,e1,e2,e3,e4,e5,e6⟩:=rel_ints (hr 0)
 rw [args_1 hsz,e0]
 have h3:cond (Nat.ble l.length 100000000) (some l) none=some y:=h3
 cases hb:Nat.ble l.length 100000000 with
 | false=>rw [hb] at h3;cases h3
 | true=>
  rw [hb] at h3
  have hy:l=y:=by injection h3
  have hb:=Nat.le_of_ble_eq_true hb
  subst hy
  cases a with
  | none=>
   have hl:=e6 rfl
   refine (scl_nil n c w).mono ?_
   rintro e w' ⟨rfl,rfl⟩
   exact own_row (l:=l) hw hlim (Below.refl _ _) (by rw [hl];exact World.ownsRow_nil _ _ _ _) e4 rfl rfl
  | some ad=>
   refine (scl_at ad n c l w e1 (by omega) (e5 ad rfl)).mono ?_
   rintro e w' ⟨v,rfl,h1,h2⟩
   exact own_row (l:=l) hw hlim h2 (by rw [e1];exact h1) e4 rfl rfl

set_option maxHeartbeats 4000000 in
set_option maxRecDepth 1000000 in
theorem bcl_at (a:Addr) (n c:Nat) (l:List Int) (w:World) (hl:l.length=n) (hbig:n<=140737488355328) (hc:∀ (i:Nat) x,l[i]? = some x->w.cell? (a.add i)=some (.int .u8 x)) :
  Calls Tryz.prog 66 #[.slice (some a) n c] w fun e w'=>∃ v',e=.returned v' /\ w'.ownsRow w.heap.size 5 1 v' n (l.map (Value.int .u8)) /\ Below w.heap.size w w':=by
 obtain ⟨i0,hi,hz0,hz1,hz2⟩:=info_parts infoU
 have q22:∀ (w:World) (a:Option Addr) (n c n' c':Nat),(binOp .eql 32 (.slice a n c) (.slice none n' c')).run Tryz.prog w=.ok (.bool a.isNone) w:=fun w a n c n' c'=>Lib.run_eql_slice_nil w _ _ a n c n' c' Tryz.underlying32
 have A:Aside (∀ (i:Nat) x,l[i]? = some x->w.cell? (a.add i)=some (.int .u8 x)):=hc
 clear hc
 go_enter Tryz.func66,Tryz.ntmps66
 go_wp2_with (at_builtin;refine wpList_append_own _ rfl _ _ 32 rfl w.heap.size 5 i0 (.int .u8 0) 1 1 Tryz.underlying32 hi hz0 hz1 hz2 rfl (by decide) _ _ _ rfl (World.ownsRow_made w #[] 0 (Nat.le_refl _) (Nat.zero_le _) rfl) a n c (l.map (Value.int .u8)) rfl ?qc1 ?qc2 ?qc3 ?qc4 ?qc5 ?qc6 ?_)
 case qc1=>simp;omega
 case qc2=>
  intro j u hj
  rw [List.getElem?_map] at hj
  obtain ⟨x,hx,rfl⟩:=Option.map_eq_some_iff.1 hj
  exact Lib.cell?_alloc_some _ (A.out j x hx)
 case qc3=>intro u hu;obtain ⟨x,_,rfl⟩:=List.mem_map.1 hu;rfl
 case qc4=>unfold maxLen;omega
 case qc5=>omega
 case qc6=>simp
 intro v' w1 hown hgrow hnil
 go_wp2
 go_ret
 exact ⟨v',rfl,by simpa using hown,((Below.refl _ w).alloc (Nat.le_refl _) _).grown hgrow (by simp) (by intro k hk;simp [Value.ownBlock] at hk;omega)⟩
set_option maxHeartbeats 4000000 in
theorem bcl_nil (n c:Nat) (w:World):Calls Tryz.prog 66 #[.slice none n c] w fun e w'=>e=.returned (.slice none 0 0) /\ w'=w:=by
 have q22:∀ (w:World) (a:Option Addr) (n c n' c':Nat),(binOp .eql 32 (.slice a n c) (.slice none n' c')).run Tryz.prog w=.ok (.bool a.isNone) w:=fun w a n c n' c'=>Lib.run_eql_slice_nil w _ _ a n c n' c' Tryz.underlying32
 go_enter Tryz.func66,Tryz.ntmps66
 go_wp2
 go_ret
 exact ⟨rfl,rfl⟩
theorem F_bytes_Clone_sound {T:Tab}:SoundFn Tryz.prog T 66 F_bytes_Clone_sig ⟨F_bytes_Clone⟩:=by
 refine sound_of rfl fun F g O xs ls y tmf w args hT hw hlim hls happ hsz hr=>?_
 obtain ⟨(l:List Int),xs',rfl,h2⟩:=appF_inv_c (ts:=[]) happ
 obtain ⟨rfl,h3⟩:=appF_inv_n h2
 have hls':some [Leaf.d (.sl (.int .u8)) l]=some ls:=hls
 injection hls' with hls'
 subst hls'
 obtain ⟨a,n,c,e0,e1,e2,e3,e4,e5,e6⟩:=rel_ints (hr 0)
 rw [args_1 hsz,e0]
 have h3:cond (Nat.ble l.length 100000000) (some l) none=some y:=h3
 cases hb:Nat.ble l.length 100000000 with
 | false=>rw [hb] at h3;cases h3
 | true=>
  rw [hb] at h3
  have hy:l=y:=by injection h3
  have hb:=Nat.le_of_ble_eq_true hb
  subst hy
  cases a with
  | none=>
   have hl:=e6 rfl
   refine (bcl_nil n c w).mono ?_
   rintro e w' ⟨rfl,rfl⟩
   exact own_row (l:=l) hw hlim (Below.refl _ _) (by rw [hl];exact World.ownsRow_nil _ _ _ _) e4 rfl rfl
  | some ad=>
   refine (bcl_at ad n c l w e1 (by omega) (e5 ad rfl)).mono ?_
   rintro e w' ⟨v,rfl,h1,h2⟩
   exact own_row (l:=l) hw hlim h2 (by rw [e1];exact h1) e4 rfl rfl
def fieldT:Ty:=.pr .str (.pr .str .bool)
def fieldZ:Value:=.agg #[.string ⟨#[]⟩,.string ⟨#[]⟩,.bool false]
theorem infoF:(Tryz.prog.info? 26).map (fun i=>(i.zero,i.size,i.bytes))=some (some fieldZ,3,40):=by kernel_rfl
set_option maxHeartbeats 4000000 in
set_option maxRecDepth 1000000 in
theorem clf_at (a:Addr) (n c:Nat) (news:List Value) (w:World) (hl:news.length=n*3) (hbig:n<=1000000) (hc:∀ j u,news[j]? = some u->w.cell? (a.add j)=some u) (h1:∀ u∈news,u.oneCell'=true) :
  Calls Tryz.prog 153 #[.slice (some a) n c] w fun e w'=>∃ v',e=.returned v' /\ w'.ownsRow w.heap.size 26 3 v' n news /\ Below w.heap.size w w':=by
 obtain ⟨i0,hi,hz0,hz1,hz2⟩:=info_parts infoF
 have q22:∀ (w:World) (a:Option Addr) (n c n' c':Nat),(binOp .eql 22 (.slice a n c) (.slice none n' c')).run Tryz.prog w=.ok (.bool a.isNone) w:=fun w a n c n' c'=>Lib.run_eql_slice_nil w _ _ a n c n' c' Tryz.underlying22
 have A:Aside (∀ j u,news[j]? = some u->w.cell? (a.add j)=some u):=hc
 have B:Aside (∀ u∈news,u.oneCell'=true):=h1
 clear hc h1
 go_enter Tryz.func153,Tryz.ntmps153
 go_wp2_with (at_builtin;refine wpList_append_own _ rfl _ _ 22 rfl w.heap.size 26 i0 fieldZ 3 40 Tryz.underlying22 hi hz0 hz1 hz2 rfl (by decide) _ _ _ rfl (World.ownsRow_made w #[] 0 (Nat.le_refl _) (Nat.zero_le _) rfl) a n c news rfl ?qc1 ?qc2 ?qc3 ?qc4 ?qc5 ?qc6 ?_)
 case qc1=>exact hl
 case qc2=>
  intro j u hj
  exact Lib.cell?_alloc_some _ (A.out j u hj)
 case qc3=>exact B.out
 case qc4=>unfold maxLen;omega
 case qc5=>omega
 case qc6=>simp
 intro v' w1 hown hgrow hnil
 go_wp2
 go_ret
 exact ⟨v',rfl,by simpa using hown,((Below.refl _ w).alloc (Nat.le_refl _) _).grown hgrow (by simp) (by intro k hk;simp [Value.ownBlock] at hk;omega)⟩
set_option maxHeartbeats 4000000 in
theorem clf_nil (n c:Nat) (w:World):Calls Tryz.prog 153 #[.slice none n c] w fun e w'=>e=.returned (.slice none 0 0) /\ w'=w:=by
 have q22:∀ (w:World) (a:Option Addr) (n c n' c':Nat),(binOp .eql 22 (.slice a n c) (.slice none n' c')).run Tryz.prog w=.ok (.bool a.isNone) w:=fun w a n c n' c'=>Lib.run_eql_slice_nil w _ _ a n c n' c' Tryz.underlying22
 go_enter Tryz.func153,Tryz.ntmps153
 go_wp2
 go_ret
 exact ⟨rfl,rfl⟩
theorem F_slices_Clone_stat_Field_stat_Field_sound {T:Tab}:SoundFn Tryz.prog T 153 F_slices_Clone_stat_Field_stat_Field_sig ⟨F_slices_Clone_stat_Field_stat_Field⟩:=by
 refine sound_of rfl fun F g O xs ls y tmf w args hT hw hlim hls happ hsz hr=>?_
 obtain ⟨(l:List fieldT.D),xs',rfl,h2⟩:=appF_inv_c (ts:=[]) happ
 obtain ⟨rfl,h3⟩:=appF_inv_n h2
 have hls':some [Leaf.d (.sl fieldT) l]=some ls:=hls
 injection hls' with hls'
 subst hls'
 obtain ⟨a,n,c,e0,e1,e2,e3,e4⟩:=rel_leaf.1 (hr 0)
 have hrep:RepD w g.C (.sl fieldT) l [.slice a n c]:=⟨a,n,c,rfl,e1,e2,e3,e4⟩
 have e0:args.getD 0 undef=.slice a n c:=by injection e0
 rw [args_1 hsz,e0]
 have h3:cond (Nat.ble l.length 1000000) (some l) none=some y:=h3
 cases hb:Nat.ble l.length 1000000 with
 | false=>rw [hb] at h3;cases h3
 | true=>
  rw [hb] at h3
  have hy:l=y:=by injection h3
  have hb:=Nat.le_of_ble_eq_true hb
  subst hy
  cases a with
  | none=>
   have hl:l=[]:=by
    cases l with
    | nil=>rfl
    | cons x r=>
     obtain ⟨ad,us,q,_⟩:=e4 0 x rfl
     cases q
   subst hl
   refine (clf_nil n c w).mono ?_
   rintro e w' ⟨rfl,rfl⟩
   exact own_nil hlim (Below.refl _ _) rfl rfl
  | some ad=>
   obtain ⟨news,n1,n2,n3,n4⟩:=slice_cells (e:=fieldT) (by decide) hrep
   refine (clf_at ad n c news w (by rw [n1,e1];rfl) (by omega) n2 n3).mono ?_
   rintro e w' ⟨v,rfl,hrow,hbel⟩
   obtain ⟨h0,⟨rfl,hn⟩ | ⟨b,cap,cur,rfl,k2,k3,k4,k5,k6,k7⟩⟩:=hrow
   ·have hl:l=[]:=List.eq_nil_of_length_eq_zero (by omega)
    subst hl
    exact own_nil hlim hbel rfl rfl
   ·subst e1
    refine own_out (e:=fieldT) (l:=l) hw hlim hbel k2 k3 k4 k5 k6 (fun i x hx=>?_) rfl rfl
    have hin:i < l.length:=(List.getElem?_eq_some_iff.1 hx).1
    have r1:=n4 i x hx
    have r2:RepD w' ⟨fun b' o=>g.C b' o \/ (b'=b /\ o < l.length*fieldT.size),g.C.i⟩ fieldT x ((news.drop (i*fieldT.size)).take fieldT.size):=RepD.gw (C:=g.C) (C':=⟨fun b' o=>g.C b' o \/ (b'=b /\ o < l.length*fieldT.size),g.C.i⟩) ⟨fun a u hu hC=>⟨by rw [hbel.cell (cell_lt hu)];exact hu,(by show g.C.c _ _ \/ _;exact Or.inl hC)⟩,fun _ _ _ q=>q⟩ r1
    have e7:(cur.toList.drop (i*fieldT.size)).take fieldT.size=(news.drop (i*fieldT.size)).take fieldT.size:=by
     show (cur.toList.drop (i*3)).take 3=(news.drop (i*3)).take 3
     rw [<-k7,List.drop_take,List.take_take]
     congr 1
     omega
    rw [e7]
    exact r2
def growRen:Go.Shelf.Ren:=⟨fun | 4=>114 | n=>n,fun | 22=>32 | 25=>5 | n=>n,fun n=>n⟩
theorem growLays:Lays8.n4 Tryz.prog growRen:={
 mixed:=by kernel_rfl
 f4 := ⟨"slices.Grow[[]byte,byte]", by decide, Tryz.func114.trans (congrArg some (by kernel_rfl))⟩
 t0:=Tryz.underlying0
 a0:=Tryz.isAgg0
 z0:=Tryz.sizeOf0
 v0:=Tryz.zeroValue0
 t3:=Tryz.underlying3
 a3:=Tryz.isAgg3
 z3:=Tryz.sizeOf3
 v3:=Tryz.zeroValue3
 t4:=Tryz.underlying4
 a4:=Tryz.isAgg4
 z4:=Tryz.sizeOf4
 v4:=Tryz.zeroValue4
 t9:=Tryz.underlying9
 a9:=Tryz.isAgg9
 z9:=Tryz.sizeOf9
 v9:=Tryz.zeroValue9
 t20:=Tryz.underlying20
 a20:=Tryz.isAgg20
 z20:=Tryz.sizeOf20
 v20:=Tryz.zeroValue20
 t22:=Tryz.underlying32
 a22:=Tryz.isAgg32
 z22:=Tryz.sizeOf32
 v22:=Tryz.zeroValue32 }
theorem grow_nil (n:Nat) (hn:n<=1000000000) (w:World) :
  Calls Tryz.prog 114 #[.slice none 0 0,.int .i64 n] w fun e w'=>∃ v,e=.returned v /\ w'.ownsRow w.heap.size 5 1 v 0 [] /\ Below w.heap.size w w':=by
 obtain ⟨i0,hi,hz0,hz1,hz2⟩:=info_parts infoU
 by_cases h0:n=0
 ·subst h0
  refine (Any8.slices_Grow_room growLays none 0 0 0 w (Nat.le_refl _) (by omega) (by omega) (Nat.le_refl _)).mono ?_
  rintro e w' ⟨rfl,rfl⟩
  exact ⟨_,rfl,World.ownsRow_nil _ _ _ _,Below.refl _ _⟩
 ·refine (Any8.slices_Grow_grow growLays i0 (.int .u8 0) hi hz0 (by rw [hz1];decide) none 0 0 n [] w (Nat.le_refl _) (by omega) (by rw [hz2];omega) (by omega) (by simp) (fun _=>rfl) (fun a h=>by cases h)).mono ?_
  rintro e w' ⟨rfl,rfl⟩
  have hge:=grownCap_ge w (0+n) 0 5
  have hle:=grownCap_le_maxLen w (0+n) 0 5 (by unfold maxLen;omega)
  refine ⟨_,rfl,World.ownsRow_made w.drew _ _ (Nat.le_refl _) hle ?_,((Below.refl _ w).drew).alloc (Nat.le_refl _) _⟩
  have e:(Value.int .u8 0).cells.size=1:=rfl
  show (#[]++Builtin.zeroCells (Value.int .u8 0).cells (0+n - 0)++Builtin.zeroCells (Value.int .u8 0).cells (grownCap w (0+n) 0 5 - (0+n))).size=grownCap w (0+n) 0 5*1
  rw [Array.size_append,Array.size_append,size_zeroCells,size_zeroCells,e]
  simp only [List.size_toArray,List.length_nil]
  omega
def InRowQ (w:World) (a:Option Addr) (L:List (List Int)):Prop:=∀ (i:Nat) l,L[i]? = some l -> ∃ ad b n c,a=some ad /\ w.cell? (ad.add i)=some (.slice b n c) /\ l.length=n /\ (∀ bd,b=some bd -> ∀ (j:Nat) x,l[j]? = some x->w.cell? (bd.add j)=some (.int .u8 x)) /\ (b=none->l=[])
theorem take_flat {L:List (List Int)} {k:Nat} {l:List Int} (h:L[k]? = some l):(L.take (k+1)).flatten=(L.take k).flatten++l:=by
 rw [List.take_add_one,h,List.flatten_append]
 simp
theorem take_flat_le (L:List (List Int)) (k:Nat):(L.take k).flatten.length<=L.flatten.length:=by
 have:L.flatten=(L.take k).flatten++(L.drop k).flatten:=by rw [<-List.flatten_append,List.take_append_drop]
 rw [this,List.length_append];omega
theorem run_app_none {P:Program} {w:World} (base:Nat) (t ty e:TypeId) (i:TypeInfo) (size:Nat) (ht:P.underlying t=some (.slice e)) (hi:P.info? e=some i) (v:Value) (n c:Nat) (xs:List Value) (hown:w.ownsRow base e size v n xs) :
  (Builtin.append_ #[t,t] ty #[v,.slice none 0 c]).run P w=.ok v w:=by
 rcases hown.2 with ⟨rfl,rfl⟩ | ⟨g,cap,cur,rfl,_,_,hnc,_⟩
 ·simp [Builtin.append_,run_underlying ht,sizeOf,typeInfo,hi,Builtin.lenOf,Builtin.firstCells]
 ·simp [Builtin.append_,run_underlying ht,sizeOf,typeInfo,hi,Builtin.lenOf,Builtin.firstCells,hnc,storeCells]
theorem wpList_app_any {P:Program} {w:World} {ops:Array Oper} {rest:List Oper} {o:Oper} {a:Act} {Q:Exit->Act->World->Prop} (hgd:o.guard=none) (s x:Operand) (t:TypeId)
  (ho:o.op=.call { callee:=.builtin .append,args:=#[s,x],argTypes:=#[t,t] }) (base:Nat) (e:TypeId) (i:TypeInfo) (z:Value) (ht:P.underlying t=some (.slice e)) (hi:P.info? e=some i) (hz:i.zero=some z) (hsize:i.size=1) (hby:i.bytes=1) (hzs:z.cells.size=1)
  (v:Value) (n:Nat) (xs:List Value) (hs:a.eval s=v) (hown:w.ownsRow base e 1 v n xs) (b:Option Addr) (m c:Nat) (l:List Int) (hx:a.eval x=.slice b m c) (hl:l.length=m)
  (hin:∀ bd,b=some bd -> ∀ (j:Nat) y,l[j]? = some y->w.cell? (bd.add j)=some (.int .u8 y)) (hnil:b=none->l=[]) (hbytes:n+m<=1000000000) (hbase:base<=w.heap.size)
  (h:∀ v' w',w'.ownsRow base e 1 v' (n+m) (xs++l.map (Value.int .u8))->Below base w w'->wpList P ops Q rest (a.put o.dst v') w'):wpList P ops Q (o::rest) a w:=by
 cases b with
 | none=>
  have hl0:=hnil rfl
  subst hl0
  have hm:m=0:=hl.symm
  subst hm
  refine wpList_plain hgd fun K hK=>?_
  have hrun:=run_app_none (P:=P) (w:=w) base t o.type e i 1 ht hi v n c xs hown
  unfold Oper.wp
  simp [execOp,ho,resolve,invoke,builtin,hs,hx,hrun,Result.andThen]
  exact hK _ _ (h v w (by simpa using hown) (Below.refl _ _))
 | some ad=>
  refine wpList_append_own w hgd s x t ho base e i z 1 1 ht hi hz hsize hby hzs (by omega) v n xs hs hown ad m c (l.map (Value.int .u8)) hx (by rw [List.length_map,hl,Nat.mul_one]) (fun j u hj=>?_) (fun u hu=>?_) (by unfold maxLen;omega) (by omega) hbase fun v' w' h1 h2 _=>h v' w' h1 ((Below.refl _ w).grown h2 hbase fun k hk=>?_)
  ·rw [List.getElem?_map] at hj
   obtain ⟨y,hy,rfl⟩:=Option.map_eq_some_iff.1 hj
   exact hin ad rfl j y hy
  ·obtain ⟨y,_,rfl⟩:=List.mem_map.1 hu
   rfl
  ·rcases hown.2 with ⟨rfl,_⟩ | ⟨b0,cap,cur,rfl,hb0,_⟩
   ·simp [Value.ownBlock] at hk
   ·simp [Value.ownBlock] at hk
    omega
theorem InRowQ.below {w w':World} {a:Option Addr} {L:List (List Int)} (h:InRowQ w a L) (hb:Below w.heap.size w w'):InRowQ w' a L:=fun i l hl=>by
 obtain ⟨ad,b,n,c,h1,h2,h3,h4,h5⟩:=h i l hl
 have keep:∀ {p:Addr} {u:Value},w.cell? p=some u->w'.cell? p=some u:=fun {p u} hp=>by rw [hb.cell (block_lt_of_cell hp)];exact hp
 exact ⟨ad,b,n,c,h1,keep h2,h3,fun bd hbd j x hx=>keep (h4 bd hbd j x hx),h5⟩
set_option maxHeartbeats 8000000 in
set_option maxRecDepth 1000000 in
theorem cat_walk (a:Option Addr) (m c:Nat) (L:List (List Int)) (w:World) (hm:L.length=m) (hm2:m<=100000000) (hb:L.flatten.length<=100000000) (hc:Aside (InRowQ w a L)) :
  Calls Tryz.prog 59 #[.slice a m c] w fun e w'=>∃ v,e=.returned v /\ w'.ownsRow w.heap.size 5 1 v L.flatten.length (L.flatten.map (Value.int .u8)) /\ Below w.heap.size w w':=by
 obtain ⟨i0,hi,hz0,hz1,hz2⟩:=info_parts infoU
 go_enter Tryz.func59,Tryz.ntmps59
 go_wp2
 go_loopw [3,11] (fun s i wr=>wr=w /\ ∃ k:Nat,k<=m /\ i=.int .i64 k /\ s=.int .i64 ((L.take k).flatten.length:Nat)) (fun _ i _=>m - (RowKit.intOf i).toNat)
 case atStart=>exact ⟨rfl,0,Nat.zero_le _,rfl,rfl⟩
 case round=>
  obtain ⟨hwr,k,hk,rfl,rfl⟩:=hrel
  have hwr:=hwr.symm
  subst hwr
  have hle:=take_flat_le L k
  obtain ⟨s,hs⟩:∃ s,(L.take k).flatten.length=s:=⟨_,rfl⟩
  rw [hs] at hle ⊢
  by_cases hlt:k < m
  ·obtain ⟨l,hl⟩:∃ l,L[k]? = some l:=⟨L[k]'(by omega),List.getElem?_eq_getElem (by omega)⟩
   obtain ⟨ad,b,n,c',ha,hcell,hn,_⟩:=hc.out k l hl
   have hs2:(L.take (k+1)).flatten.length=s+n:=by rw [take_flat hl,List.length_append,hs,hn]
   have hle2:=take_flat_le L (k+1)
   rw [hs2] at hle2
   subst ha
   go_wp2
   go_roundw
   case rel=>exact ⟨trivial,k+1,by omega,by simp,by rw [hs2];simp⟩
   case measure=>simp [RowKit.intOf];omega
  ·have hkm:k=m:=by omega
   subst hkm
   have hall:L.take k=L:=List.take_of_length_le (by omega)
   rw [hall] at hs
   go_wp2_with (go_at_call 114;(with_reducible refine (grow_nil s (by omega) _).mono ?_);rintro e w1 ⟨v,rfl,hown,hbel⟩)
   go_loopw [6,27] (fun v i wr=>∃ j:Nat,j<=k /\ i=.int .i64 j /\ wr.ownsRow w.heap.size 5 1 v (L.take j).flatten.length ((L.take j).flatten.map (Value.int .u8)) /\ Below w.heap.size w wr) (fun _ i _=>k - (RowKit.intOf i).toNat)
   case atStart=>exact ⟨0,Nat.zero_le _,rfl,by simpa using hown,hbel⟩
   case round=>
    obtain ⟨j,hj,rfl,hown2,hbel2⟩:=hrel
    by_cases hlt2:j < k
    ·obtain ⟨l,hl⟩:∃ l,L[j]? = some l:=⟨L[j]'(by omega),List.getElem?_eq_getElem (by omega)⟩
     obtain ⟨ad,b,n,c',ha,hcell,hn,hin,hnil⟩:=hc.out j l hl
     subst ha
     have hs2:(L.take (j+1)).flatten=(L.take j).flatten++l:=take_flat hl
     have hle2:=take_flat_le L (j+1)
     rw [hs2,List.length_append,hn] at hle2
     have keep:∀ {p:Addr} {u:Value},w.cell? p=some u->wr.cell? p=some u:=fun {p u} hp=>by rw [hbel2.cell (block_lt_of_cell hp)];exact hp
     have hcell2:=keep hcell
     have B:Aside (Below w.heap.size w wr /\ wr.ownsRow w.heap.size 5 1 u6 (L.take j).flatten.length ((L.take j).flatten.map (Value.int .u8)) /\ (∀ bd,b=some bd -> ∀ (i:Nat) y,l[i]? = some y->wr.cell? (bd.add i)=some (.int .u8 y)) /\ (b=none->l=[]) /\ l.length=n /\ (L.take (j+1)).flatten=(L.take j).flatten++l /\ (L.take j).flatten.length+n<=1000000000):=⟨hbel2,hown2,fun bd hbd i y hy=>keep (hin bd hbd i y hy),hnil,hn,hs2,by omega⟩
     clear hbel2 hown2 hin hnil hs2 hle2 keep hcell hown hbel hs hall
     go_wp2_with (at_builtin;refine wpList_app_any rfl _ _ 32 rfl w.heap.size 5 i0 (.int .u8 0) Tryz.underlying32 hi hz0 hz1 hz2 rfl _ _ _ rfl B.out.2.1 b n c' l rfl B.out.2.2.2.2.1 B.out.2.2.1 B.out.2.2.2.1 B.out.2.2.2.2.2.2 B.out.1.size ?_;intro v2 w2 hown3 hbel3)
     go_roundw
     case rel=>
      refine ⟨j+1,by omega,by simp,?_,B.out.1.trans hbel3⟩
      rw [B.out.2.2.2.2.2.1,List.length_append,List.map_append,B.out.2.2.2.2.1]
      exact hown3
     case measure=>simp [RowKit.intOf];omega
    ·have hjk:j=k:=by omega
     subst hjk
     rw [hall] at hown2
     go_wp2
     go_ret
     rw [hs] at hown2 ⊢
     exact ⟨_,rfl,hown2,hbel2⟩
theorem inRow_of {w:World} {C:Com} {L:List (List Int)} {cs:List Value} (h:RepD w C (.sl (.sl (.int .u8))) L cs):∃ a m c,cs=[.slice a m c] /\ L.length=m /\ InRowQ w a L /\ ∀ l∈L,∀ x∈l,(Lit.int .u8 x).wf=true:=by
 obtain ⟨a,n,c,e0,e1,e2,e3,e4⟩:=h
 have key:∀ (i:Nat) (l:List Int),L[i]? = some l->(∃ ad b n c,a=some ad /\ w.cell? (ad.add i)=some (.slice b n c) /\ l.length=n /\ (∀ bd,b=some bd -> ∀ (j:Nat) x,l[j]? = some x->w.cell? (bd.add j)=some (.int .u8 x)) /\ (b=none->l=[])) /\ ∀ x∈l,(Lit.int .u8 x).wf=true:=fun i l hl=>by
  obtain ⟨ad,us,h1,h2,h3,h4⟩:=e4 i l hl
  obtain ⟨b,n',c',f0,f1,f2,f3,f4,f5,f6⟩:=ints_of h4
  have:=(h3 0 (.slice b n' c') (by rw [f0];rfl)).1
  rw [show (Ty.sl (Ty.int .u8)).size=1 from rfl,Nat.mul_one,Nat.add_zero] at this
  exact ⟨⟨ad,b,n',c',h1,this,f1,f5,f6⟩,f4⟩
 refine ⟨a,n,c,e0,e1,fun i l hl=>(key i l hl).1,fun l hl x hx=>?_⟩
 obtain ⟨i,hi⟩:=List.mem_iff_getElem?.1 hl
 exact (key i l hi).2 x hx
theorem F_slices_Concat_byte_byte_sound {T:Tab}:SoundFn Tryz.prog T 59 F_slices_Concat_byte_byte_sig ⟨F_slices_Concat_byte_byte⟩:=by
 refine sound_of rfl fun F g O xs ls y tmf w args hT hw hlim hls happ hsz hr=>?_
 obtain ⟨(L:List (List Int)),xs',rfl,h2⟩:=appF_inv_c (ts:=[]) happ
 obtain ⟨rfl,h3⟩:=appF_inv_n h2
 have hls':some [Leaf.d (.sl (.sl (.int .u8))) L]=some ls:=hls
 injection hls' with hls'
 subst hls'
 obtain ⟨a,m,c,e0,e1,e2,e3⟩:=inRow_of (rel_leaf.1 (hr 0))
 have e0:args.getD 0 undef=.slice a m c:=by injection e0
 rw [args_1 hsz,e0]
 have h3:cond (Nat.ble L.flatten.length 100000000&&Nat.ble L.length 100000000) (some L.flatten) none=some y:=h3
 cases hb:(Nat.ble L.flatten.length 100000000&&Nat.ble L.length 100000000) with
 | false=>rw [hb] at h3;cases h3
 | true=>
  rw [hb] at h3
  have hy:L.flatten=y:=by injection h3
  rw [Bool.and_eq_true] at hb
  have b1:=Nat.le_of_ble_eq_true hb.1
  have b2:=Nat.le_of_ble_eq_true hb.2
  subst hy
  refine (cat_walk a m c L w e1 (by omega) b1 e2).mono ?_
  rintro e w' ⟨v,rfl,h1,h2⟩
  exact own_row (l:=L.flatten) hw hlim h2 h1 (fun x hx=>by obtain ⟨l,hl,hx⟩:=List.mem_flatten.1 hx;exact e3 l hl x hx) rfl rfl
end Go.Proofs.YtifbhefbhlbofaaGreatDoor
namespace Go.Proofs.YtifbhefbhlbofaaGreatDoor
open Pv
theorem F_stat_Size_sound {T:Tab}:SoundFn Tryz.prog T 158 F_stat_Size_sig ⟨F_stat_Size⟩:=by
 have h:=fn_sound (T:=T) (E:=F_stat_Size_env) (by unfold Env.ok;exact fun p h=>by cases h) (A:=F_stat_Size_ann) (f:=158) (fn:=Tryz.f158) (s:=F_stat_Size_sig) Tryz.func158
 rw [F_stat_Size_text] at h
 exact h
theorem F_dyn_Table_shrinks_sound {T:Tab}:SoundFn Tryz.prog T 152 F_dyn_Table_shrinks_sig ⟨F_dyn_Table_shrinks⟩:=by
 have h:=fn_sound (T:=T) (E:=F_dyn_Table_shrinks_env) (by unfold Env.ok;exact List.forall_mem_cons.2 ⟨F_stat_Size_sound,fun p h=>by cases h⟩) (A:=F_dyn_Table_shrinks_ann) (f:=152) (fn:=Tryz.f152) (s:=F_dyn_Table_shrinks_sig) Tryz.func152
 rw [F_dyn_Table_shrinks_text] at h
 exact h
theorem F_dyn_Table_Limit_sound {T:Tab}:SoundFn Tryz.prog T 108 F_dyn_Table_Limit_sig ⟨F_dyn_Table_Limit⟩:=by
 have h:=fn_sound (T:=T) (E:=F_dyn_Table_Limit_env) (by unfold Env.ok;exact List.forall_mem_cons.2 ⟨F_dyn_Table_shrinks_sound,List.forall_mem_cons.2 ⟨F_slices_Clone_stat_Field_stat_Field_sound,fun p h=>by cases h⟩⟩) (A:=F_dyn_Table_Limit_ann) (f:=108) (fn:=Tryz.f108) (s:=F_dyn_Table_Limit_sig) Tryz.func108
 rw [F_dyn_Table_Limit_text] at h
 exact h
theorem F_dyn_New_sound {T:Tab}:SoundFn Tryz.prog T 56 F_dyn_New_sig ⟨F_dyn_New⟩:=by
 have h:=fn_sound (T:=T) (E:=F_dyn_New_env) (by unfold Env.ok;exact List.forall_mem_cons.2 ⟨F_dyn_Table_Limit_sound,fun p h=>by cases h⟩) (A:=F_dyn_New_ann) (f:=56) (fn:=Tryz.f56) (s:=F_dyn_New_sig) Tryz.func56
 rw [F_dyn_New_text] at h
 exact h
theorem F_unpack_New_sound {T:Tab}:SoundFn Tryz.prog T 13 F_unpack_New_sig ⟨F_unpack_New⟩:=by
 have h:=fn_sound (T:=T) (E:=F_unpack_New_env) (by unfold Env.ok;exact List.forall_mem_cons.2 ⟨F_dyn_New_sound,fun p h=>by cases h⟩) (A:=F_unpack_New_ann) (f:=13) (fn:=Tryz.f13) (s:=F_unpack_New_sig) Tryz.func13
 rw [F_unpack_New_text] at h
 exact h
theorem F_frame_New_sound {T:Tab}:SoundFn Tryz.prog T 19 F_frame_New_sig ⟨F_frame_New⟩:=by
 have h:=fn_sound (T:=T) (E:=F_frame_New_env) (by unfold Env.ok;exact fun p h=>by cases h) (A:=F_frame_New_ann) (f:=19) (fn:=Tryz.f19) (s:=F_frame_New_sig) Tryz.func19
 rw [F_frame_New_text] at h
 exact h
theorem F_sets_First_sound {T:Tab}:SoundFn Tryz.prog T 68 F_sets_First_sig ⟨F_sets_First⟩:=by
 have h:=fn_sound (T:=T) (E:=F_sets_First_env) (by unfold Env.ok;exact fun p h=>by cases h) (A:=F_sets_First_ann) (f:=68) (fn:=Tryz.f68) (s:=F_sets_First_sig) Tryz.func68
 rw [F_sets_First_text] at h
 exact h
theorem F_pack_New_sound {T:Tab}:SoundFn Tryz.prog T 69 F_pack_New_sig ⟨F_pack_New⟩:=by
 have h:=fn_sound (T:=T) (E:=F_pack_New_env) (by unfold Env.ok;exact List.forall_mem_cons.2 ⟨F_dyn_New_sound,fun p h=>by cases h⟩) (A:=F_pack_New_ann) (f:=69) (fn:=Tryz.f69) (s:=F_pack_New_sig) Tryz.func69
 rw [F_pack_New_text] at h
 exact h
theorem F_part_bits_sound {T:Tab}:SoundFn Tryz.prog T 121 F_part_bits_sig ⟨F_part_bits⟩:=by
 have h:=fn_sound (T:=T) (E:=F_part_bits_env) (by unfold Env.ok;exact fun p h=>by cases h) (A:=F_part_bits_ann) (f:=121) (fn:=Tryz.f121) (s:=F_part_bits_sig) Tryz.func121
 rw [F_part_bits_text] at h
 exact h
theorem F_part_Goaway_sound {T:Tab}:SoundFn Tryz.prog T 93 F_part_Goaway_sig ⟨F_part_Goaway⟩:=by
 have h:=fn_sound (T:=T) (E:=F_part_Goaway_env) (by unfold Env.ok;exact List.forall_mem_cons.2 ⟨F_part_bits_sound,fun p h=>by cases h⟩) (A:=F_part_Goaway_ann) (f:=93) (fn:=Tryz.f93) (s:=F_part_Goaway_sig) Tryz.func93
 rw [F_part_Goaway_text] at h
 exact h
theorem F_frame_Put_sound {T:Tab}:SoundFn Tryz.prog T 118 F_frame_Put_sig ⟨F_frame_Put⟩:=by
 have h:=fn_sound (T:=T) (E:=F_frame_Put_env) (by unfold Env.ok;exact fun p h=>by cases h) (A:=F_frame_Put_ann) (f:=118) (fn:=Tryz.f118) (s:=F_frame_Put_sig) Tryz.func118
 rw [F_frame_Put_text] at h
 exact h
theorem F_conn_Conn_puts_sound {T:Tab}:SoundFn Tryz.prog T 120 F_conn_Conn_puts_sig ⟨F_conn_Conn_puts⟩:=by
 have h:=fn_sound (T:=T) (E:=F_conn_Conn_puts_env) (by unfold Env.ok;exact List.forall_mem_cons.2 ⟨F_frame_Put_sound,fun p h=>by cases h⟩) (A:=F_conn_Conn_puts_ann) (f:=120) (fn:=Tryz.f120) (s:=F_conn_Conn_puts_sig) Tryz.func120
 rw [F_conn_Conn_puts_text] at h
 exact h
theorem F_conn_Conn_tells_sound {T:Tab}:SoundFn Tryz.prog T 122 F_conn_Conn_tells_sig ⟨F_conn_Conn_tells⟩:=by
 have h:=fn_sound (T:=T) (E:=F_conn_Conn_tells_env) (by unfold Env.ok;exact fun p h=>by cases h) (A:=F_conn_Conn_tells_ann) (f:=122) (fn:=Tryz.f122) (s:=F_conn_Conn_tells_sig) Tryz.func122
 rw [F_conn_Conn_tells_text] at h
 exact h
theorem F_conn_Conn_dies_sound {T:Tab}:SoundFn Tryz.prog T 72 F_conn_Conn_dies_sig ⟨F_conn_Conn_dies⟩:=by
 have h:=fn_sound (T:=T) (E:=F_conn_Conn_dies_env) (by unfold Env.ok;exact List.forall_mem_cons.2 ⟨F_frame_New_sound,List.forall_mem_cons.2 ⟨F_part_Goaway_sound,List.forall_mem_cons.2 ⟨F_conn_Conn_puts_sound,List.forall_mem_cons.2 ⟨F_conn_Conn_tells_sound,fun p h=>by cases h⟩⟩⟩⟩) (A:=F_conn_Conn_dies_ann) (f:=72) (fn:=Tryz.f72) (s:=F_conn_Conn_dies_sig) Tryz.func72
 rw [F_conn_Conn_dies_text] at h
 exact h
theorem F_conn_Conn_lays_sound {T:Tab}:SoundFn Tryz.prog T 70 F_conn_Conn_lays_sig ⟨F_conn_Conn_lays⟩:=by
 have h:=fn_sound (T:=T) (E:=F_conn_Conn_lays_env) (by unfold Env.ok;exact List.forall_mem_cons.2 ⟨F_conn_Conn_dies_sound,List.forall_mem_cons.2 ⟨F_conn_Conn_puts_sound,fun p h=>by cases h⟩⟩) (A:=F_conn_Conn_lays_ann) (f:=70) (fn:=Tryz.f70) (s:=F_conn_Conn_lays_sig) Tryz.func70
 rw [F_conn_Conn_lays_text] at h
 exact h
theorem F_part_flag_sound {T:Tab}:SoundFn Tryz.prog T 106 F_part_flag_sig ⟨F_part_flag⟩:=by
 have h:=fn_sound (T:=T) (E:=F_part_flag_env) (by unfold Env.ok;exact fun p h=>by cases h) (A:=F_part_flag_ann) (f:=106) (fn:=Tryz.f106) (s:=F_part_flag_sig) Tryz.func106
 rw [F_part_flag_text] at h
 exact h
theorem F_part_Settings_sound {T:Tab}:SoundFn Tryz.prog T 71 F_part_Settings_sig ⟨F_part_Settings⟩:=by
 have h:=fn_sound (T:=T) (E:=F_part_Settings_env) (by unfold Env.ok;exact List.forall_mem_cons.2 ⟨F_part_flag_sound,List.forall_mem_cons.2 ⟨F_part_bits_sound,fun p h=>by cases h⟩⟩) (A:=F_part_Settings_ann) (f:=71) (fn:=Tryz.f71) (s:=F_part_Settings_sig) Tryz.func71
 rw [F_part_Settings_text] at h
 exact h
theorem F_conn_New_sound {T:Tab}:SoundFn Tryz.prog T 25 F_conn_New_sig ⟨F_conn_New⟩:=by
 have h:=fn_sound (T:=T) (E:=F_conn_New_env) (by unfold Env.ok;exact List.forall_mem_cons.2 ⟨F_unpack_New_sound,List.forall_mem_cons.2 ⟨F_frame_New_sound,List.forall_mem_cons.2 ⟨F_sets_First_sound,List.forall_mem_cons.2 ⟨F_pack_New_sound,List.forall_mem_cons.2 ⟨F_conn_Conn_lays_sound,List.forall_mem_cons.2 ⟨F_part_Settings_sound,fun p h=>by cases h⟩⟩⟩⟩⟩⟩) (A:=F_conn_New_ann) (f:=25) (fn:=Tryz.f25) (s:=F_conn_New_sig) Tryz.func25
 rw [F_conn_New_text] at h
 exact h
theorem F_frame_Parser_Feed_sound {T:Tab}:SoundFn Tryz.prog T 20 F_frame_Parser_Feed_sig ⟨F_frame_Parser_Feed⟩:=by
 have h:=fn_sound (T:=T) (E:=F_frame_Parser_Feed_env) (by unfold Env.ok;exact List.forall_mem_cons.2 ⟨F_slices_Concat_byte_byte_sound,fun p h=>by cases h⟩) (A:=F_frame_Parser_Feed_ann) (f:=20) (fn:=Tryz.f20) (s:=F_frame_Parser_Feed_sig) Tryz.func20
 rw [F_frame_Parser_Feed_text] at h
 exact h
theorem F_frame_Parser_Next_sound {T:Tab}:SoundFn Tryz.prog T 22 F_frame_Parser_Next_sig ⟨F_frame_Parser_Next⟩:=by
 have h:=fn_sound (T:=T) (E:=F_frame_Parser_Next_env) (by unfold Env.ok;exact List.forall_mem_cons.2 ⟨F_bytes_Clone_sound,fun p h=>by cases h⟩) (A:=F_frame_Parser_Next_ann) (f:=22) (fn:=Tryz.f22) (s:=F_frame_Parser_Next_sig) Tryz.func22
 rw [F_frame_Parser_Next_text] at h
 exact h
theorem F_conn_Conn_State_sound {T:Tab}:SoundFn Tryz.prog T 38 F_conn_Conn_State_sig ⟨F_conn_Conn_State⟩:=by
 have h:=fn_sound (T:=T) (E:=F_conn_Conn_State_env) (by unfold Env.ok;exact fun p h=>by cases h) (A:=F_conn_Conn_State_ann) (f:=38) (fn:=Tryz.f38) (s:=F_conn_Conn_State_sig) Tryz.func38
 rw [F_conn_Conn_State_text] at h
 exact h
theorem F_part_conn_sound {T:Tab}:SoundFn Tryz.prog T 98 F_part_conn_sig ⟨F_part_conn⟩:=by
 have h:=fn_sound (T:=T) (E:=F_part_conn_env) (by unfold Env.ok;exact fun p h=>by cases h) (A:=F_part_conn_ann) (f:=98) (fn:=Tryz.f98) (s:=F_part_conn_sig) Tryz.func98
 rw [F_part_conn_text] at h
 exact h
theorem F_part_bodied_sound {T:Tab}:SoundFn Tryz.prog T 96 F_part_bodied_sig ⟨F_part_bodied⟩:=by
 have h:=fn_sound (T:=T) (E:=F_part_bodied_env) (by unfold Env.ok;exact List.forall_mem_cons.2 ⟨F_bytes_Clone_sound,List.forall_mem_cons.2 ⟨F_part_conn_sound,fun p h=>by cases h⟩⟩) (A:=F_part_bodied_ann) (f:=96) (fn:=Tryz.f96) (s:=F_part_bodied_sig) Tryz.func96
 rw [F_part_bodied_text] at h
 exact h
theorem F_part_number_sound {T:Tab}:SoundFn Tryz.prog T 102 F_part_number_sig ⟨F_part_number⟩:=by
 have h:=fn_sound (T:=T) (E:=F_part_number_env) (by unfold Env.ok;exact fun p h=>by cases h) (A:=F_part_number_ann) (f:=102) (fn:=Tryz.f102) (s:=F_part_number_sig) Tryz.func102
 rw [F_part_number_text] at h
 exact h
theorem F_part_settings_sound {T:Tab}:SoundFn Tryz.prog T 97 F_part_settings_sig ⟨F_part_settings⟩:=by
 have h:=fn_sound (T:=T) (E:=F_part_settings_env) (by unfold Env.ok;exact List.forall_mem_cons.2 ⟨F_part_conn_sound,List.forall_mem_cons.2 ⟨F_part_number_sound,fun p h=>by cases h⟩⟩) (A:=F_part_settings_ann) (f:=97) (fn:=Tryz.f97) (s:=F_part_settings_sig) Tryz.func97
 rw [F_part_settings_text] at h
 exact h
theorem F_part_whole_sound {T:Tab}:SoundFn Tryz.prog T 99 F_part_whole_sig ⟨F_part_whole⟩:=by
 have h:=fn_sound (T:=T) (E:=F_part_whole_env) (by unfold Env.ok;exact List.forall_mem_cons.2 ⟨F_bytes_Clone_sound,List.forall_mem_cons.2 ⟨F_part_conn_sound,List.forall_mem_cons.2 ⟨F_part_number_sound,fun p h=>by cases h⟩⟩⟩) (A:=F_part_whole_ann) (f:=99) (fn:=Tryz.f99) (s:=F_part_whole_sig) Tryz.func99
 rw [F_part_whole_text] at h
 exact h
theorem F_part_stream_sound {T:Tab}:SoundFn Tryz.prog T 101 F_part_stream_sig ⟨F_part_stream⟩:=by
 have h:=fn_sound (T:=T) (E:=F_part_stream_env) (by unfold Env.ok;exact fun p h=>by cases h) (A:=F_part_stream_ann) (f:=101) (fn:=Tryz.f101) (s:=F_part_stream_sig) Tryz.func101
 rw [F_part_stream_text] at h
 exact h
theorem F_part_update_sound {T:Tab}:SoundFn Tryz.prog T 100 F_part_update_sig ⟨F_part_update⟩:=by
 have h:=fn_sound (T:=T) (E:=F_part_update_env) (by unfold Env.ok;exact List.forall_mem_cons.2 ⟨F_part_conn_sound,List.forall_mem_cons.2 ⟨F_part_stream_sound,List.forall_mem_cons.2 ⟨F_part_number_sound,fun p h=>by cases h⟩⟩⟩) (A:=F_part_update_ann) (f:=100) (fn:=Tryz.f100) (s:=F_part_update_sig) Tryz.func100
 rw [F_part_update_text] at h
 exact h
theorem F_part_Read_sound {T:Tab}:SoundFn Tryz.prog T 48 F_part_Read_sig ⟨F_part_Read⟩:=by
 have h:=fn_sound (T:=T) (E:=F_part_Read_env) (by unfold Env.ok;exact List.forall_mem_cons.2 ⟨F_bytes_Clone_sound,List.forall_mem_cons.2 ⟨F_part_bodied_sound,List.forall_mem_cons.2 ⟨F_part_settings_sound,List.forall_mem_cons.2 ⟨F_part_conn_sound,List.forall_mem_cons.2 ⟨F_part_whole_sound,List.forall_mem_cons.2 ⟨F_part_update_sound,List.forall_mem_cons.2 ⟨F_part_stream_sound,List.forall_mem_cons.2 ⟨F_part_number_sound,fun p h=>by cases h⟩⟩⟩⟩⟩⟩⟩⟩) (A:=F_part_Read_ann) (f:=48) (fn:=Tryz.f48) (s:=F_part_Read_sig) Tryz.func48
 rw [F_part_Read_text] at h
 exact h
theorem F_conn_Conn_misplaced_sound {T:Tab}:SoundFn Tryz.prog T 123 F_conn_Conn_misplaced_sig ⟨F_conn_Conn_misplaced⟩:=by
 have h:=fn_sound (T:=T) (E:=F_conn_Conn_misplaced_env) (by unfold Env.ok;exact fun p h=>by cases h) (A:=F_conn_Conn_misplaced_ann) (f:=123) (fn:=Tryz.f123) (s:=F_conn_Conn_misplaced_sig) Tryz.func123
 rw [F_conn_Conn_misplaced_text] at h
 exact h
theorem F_life_carries_sound {T:Tab}:SoundFn Tryz.prog T 137 F_life_carries_sig ⟨F_life_carries⟩:=by
 have h:=fn_sound (T:=T) (E:=F_life_carries_env) (by unfold Env.ok;exact fun p h=>by cases h) (A:=F_life_carries_ann) (f:=137) (fn:=Tryz.f137) (s:=F_life_carries_sig) Tryz.func137
 rw [F_life_carries_text] at h
 exact h
theorem F_life_ended_sound {T:Tab}:SoundFn Tryz.prog T 138 F_life_ended_sig ⟨F_life_ended⟩:=by
 have h:=fn_sound (T:=T) (E:=F_life_ended_env) (by unfold Env.ok;exact fun p h=>by cases h) (A:=F_life_ended_ann) (f:=138) (fn:=Tryz.f138) (s:=F_life_ended_sig) Tryz.func138
 rw [F_life_ended_text] at h
 exact h
theorem F_life_Send_sound {T:Tab}:SoundFn Tryz.prog T 84 F_life_Send_sig ⟨F_life_Send⟩:=by
 have h:=fn_sound (T:=T) (E:=F_life_Send_env) (by unfold Env.ok;exact List.forall_mem_cons.2 ⟨F_life_carries_sound,List.forall_mem_cons.2 ⟨F_life_ended_sound,fun p h=>by cases h⟩⟩) (A:=F_life_Send_ann) (f:=84) (fn:=Tryz.f84) (s:=F_life_Send_sig) Tryz.func84
 rw [F_life_Send_text] at h
 exact h
theorem F_conn_stream_open_sound {T:Tab}:SoundFn Tryz.prog T 79 F_conn_stream_open_sig ⟨F_conn_stream_open⟩:=by
 have h:=fn_sound (T:=T) (E:=F_conn_stream_open_env) (by unfold Env.ok;exact fun p h=>by cases h) (A:=F_conn_stream_open_ann) (f:=79) (fn:=Tryz.f79) (s:=F_conn_stream_open_sig) Tryz.func79
 rw [F_conn_stream_open_text] at h
 exact h
theorem F_conn_Conn_turns_sound {T:Tab}:SoundFn Tryz.prog T 87 F_conn_Conn_turns_sig ⟨F_conn_Conn_turns⟩:=by
 have h:=fn_sound (T:=T) (E:=F_conn_Conn_turns_env) (by unfold Env.ok;exact List.forall_mem_cons.2 ⟨F_conn_stream_open_sound,fun p h=>by cases h⟩) (A:=F_conn_Conn_turns_ann) (f:=87) (fn:=Tryz.f87) (s:=F_conn_Conn_turns_sig) Tryz.func87
 rw [F_conn_Conn_turns_text] at h
 exact h
theorem F_part_Rst_sound {T:Tab}:SoundFn Tryz.prog T 135 F_part_Rst_sig ⟨F_part_Rst⟩:=by
 have h:=fn_sound (T:=T) (E:=F_part_Rst_env) (by unfold Env.ok;exact List.forall_mem_cons.2 ⟨F_part_bits_sound,fun p h=>by cases h⟩) (A:=F_part_Rst_ann) (f:=135) (fn:=Tryz.f135) (s:=F_part_Rst_sig) Tryz.func135
 rw [F_part_Rst_text] at h
 exact h
theorem F_conn_Conn_resets_sound {T:Tab}:SoundFn Tryz.prog T 81 F_conn_Conn_resets_sig ⟨F_conn_Conn_resets⟩:=by
 have h:=fn_sound (T:=T) (E:=F_conn_Conn_resets_env) (by unfold Env.ok;exact List.forall_mem_cons.2 ⟨F_conn_Conn_State_sound,List.forall_mem_cons.2 ⟨F_conn_Conn_lays_sound,List.forall_mem_cons.2 ⟨F_life_Send_sound,List.forall_mem_cons.2 ⟨F_conn_Conn_turns_sound,List.forall_mem_cons.2 ⟨F_part_Rst_sound,fun p h=>by cases h⟩⟩⟩⟩⟩) (A:=F_conn_Conn_resets_ann) (f:=81) (fn:=Tryz.f81) (s:=F_conn_Conn_resets_sig) Tryz.func81
 rw [F_conn_Conn_resets_text] at h
 exact h
theorem F_conn_Conn_faults_sound {T:Tab}:SoundFn Tryz.prog T 124 F_conn_Conn_faults_sig ⟨F_conn_Conn_faults⟩:=by
 have h:=fn_sound (T:=T) (E:=F_conn_Conn_faults_env) (by unfold Env.ok;exact List.forall_mem_cons.2 ⟨F_conn_Conn_resets_sound,List.forall_mem_cons.2 ⟨F_conn_Conn_tells_sound,fun p h=>by cases h⟩⟩) (A:=F_conn_Conn_faults_ann) (f:=124) (fn:=Tryz.f124) (s:=F_conn_Conn_faults_sig) Tryz.func124
 rw [F_conn_Conn_faults_text] at h
 exact h
theorem F_part_Update_sound {T:Tab}:SoundFn Tryz.prog T 136 F_part_Update_sig ⟨F_part_Update⟩:=by
 have h:=fn_sound (T:=T) (E:=F_part_Update_env) (by unfold Env.ok;exact List.forall_mem_cons.2 ⟨F_part_bits_sound,fun p h=>by cases h⟩) (A:=F_part_Update_ann) (f:=136) (fn:=Tryz.f136) (s:=F_part_Update_sig) Tryz.func136
 rw [F_part_Update_text] at h
 exact h
theorem F_conn_Conn_gives_sound {T:Tab}:SoundFn Tryz.prog T 82 F_conn_Conn_gives_sig ⟨F_conn_Conn_gives⟩:=by
 have h:=fn_sound (T:=T) (E:=F_conn_Conn_gives_env) (by unfold Env.ok;exact List.forall_mem_cons.2 ⟨F_conn_Conn_lays_sound,List.forall_mem_cons.2 ⟨F_part_Update_sound,fun p h=>by cases h⟩⟩) (A:=F_conn_Conn_gives_ann) (f:=82) (fn:=Tryz.f82) (s:=F_conn_Conn_gives_sig) Tryz.func82
 rw [F_conn_Conn_gives_text] at h
 exact h
theorem F_conn_Conn_givesTo_sound {T:Tab}:SoundFn Tryz.prog T 83 F_conn_Conn_givesTo_sig ⟨F_conn_Conn_givesTo⟩:=by
 have h:=fn_sound (T:=T) (E:=F_conn_Conn_givesTo_env) (by unfold Env.ok;exact List.forall_mem_cons.2 ⟨F_conn_Conn_lays_sound,List.forall_mem_cons.2 ⟨F_part_Update_sound,fun p h=>by cases h⟩⟩) (A:=F_conn_Conn_givesTo_ann) (f:=83) (fn:=Tryz.f83) (s:=F_conn_Conn_givesTo_sig) Tryz.func83
 rw [F_conn_Conn_givesTo_text] at h
 exact h
theorem F_life_fault_sound {T:Tab}:SoundFn Tryz.prog T 185 F_life_fault_sig ⟨F_life_fault⟩:=by
 have h:=fn_sound (T:=T) (E:=F_life_fault_env) (by unfold Env.ok;exact fun p h=>by cases h) (A:=F_life_fault_ann) (f:=185) (fn:=Tryz.f185) (s:=F_life_fault_sig) Tryz.func185
 rw [F_life_fault_text] at h
 exact h
theorem F_life_Recv_sound {T:Tab}:SoundFn Tryz.prog T 161 F_life_Recv_sig ⟨F_life_Recv⟩:=by
 have h:=fn_sound (T:=T) (E:=F_life_Recv_env) (by unfold Env.ok;exact List.forall_mem_cons.2 ⟨F_life_carries_sound,List.forall_mem_cons.2 ⟨F_life_ended_sound,List.forall_mem_cons.2 ⟨F_life_fault_sound,fun p h=>by cases h⟩⟩⟩) (A:=F_life_Recv_ann) (f:=161) (fn:=Tryz.f161) (s:=F_life_Recv_sig) Tryz.func161
 rw [F_life_Recv_text] at h
 exact h
theorem F_conn_Conn_data_sound {T:Tab}:SoundFn Tryz.prog T 125 F_conn_Conn_data_sig ⟨F_conn_Conn_data⟩:=by
 have h:=fn_sound (T:=T) (E:=F_conn_Conn_data_env) (by unfold Env.ok;exact List.forall_mem_cons.2 ⟨F_conn_Conn_State_sound,List.forall_mem_cons.2 ⟨F_conn_Conn_dies_sound,List.forall_mem_cons.2 ⟨F_conn_Conn_gives_sound,List.forall_mem_cons.2 ⟨F_conn_Conn_givesTo_sound,List.forall_mem_cons.2 ⟨F_conn_Conn_turns_sound,List.forall_mem_cons.2 ⟨F_conn_Conn_tells_sound,List.forall_mem_cons.2 ⟨F_conn_Conn_faults_sound,List.forall_mem_cons.2 ⟨F_life_Recv_sound,fun p h=>by cases h⟩⟩⟩⟩⟩⟩⟩⟩) (A:=F_conn_Conn_data_ann) (f:=125) (fn:=Tryz.f125) (s:=F_conn_Conn_data_sig) Tryz.func125
 rw [F_conn_Conn_data_text] at h
 exact h
theorem F_pint_ones_sound {T:Tab}:SoundFn Tryz.prog T 159 F_pint_ones_sig ⟨F_pint_ones⟩:=by
 have h:=fn_sound (T:=T) (E:=F_pint_ones_env) (by unfold Env.ok;exact fun p h=>by cases h) (A:=F_pint_ones_ann) (f:=159) (fn:=Tryz.f159) (s:=F_pint_ones_sig) Tryz.func159
 rw [F_pint_ones_text] at h
 exact h
theorem F_pint_Get_sound {T:Tab}:SoundFn Tryz.prog T 155 F_pint_Get_sig ⟨F_pint_Get⟩:=by
 have h:=fn_sound (T:=T) (E:=F_pint_Get_env) (by unfold Env.ok;exact List.forall_mem_cons.2 ⟨F_pint_ones_sound,fun p h=>by cases h⟩) (A:=F_pint_Get_ann) (f:=155) (fn:=Tryz.f155) (s:=F_pint_Get_sig) Tryz.func155
 rw [F_pint_Get_text] at h
 exact h
theorem F_unpack_block_number_sound {T:Tab}:SoundFn Tryz.prog T 110 F_unpack_block_number_sig ⟨F_unpack_block_number⟩:=by
 have h:=fn_sound (T:=T) (E:=F_unpack_block_number_env) (by unfold Env.ok;exact List.forall_mem_cons.2 ⟨F_pint_Get_sound,fun p h=>by cases h⟩) (A:=F_unpack_block_number_ann) (f:=110) (fn:=Tryz.f110) (s:=F_unpack_block_number_sig) Tryz.func110
 rw [F_unpack_block_number_text] at h
 exact h
theorem F_internal_stringslite_Cut_sound {T:Tab}:SoundFn Tryz.prog T 218 F_internal_stringslite_Cut_sig ⟨F_internal_stringslite_Cut⟩:=by
 have h:=fn_sound (T:=T) (E:=F_internal_stringslite_Cut_env) (by unfold Env.ok;exact List.forall_mem_cons.2 ⟨F_internal_stringslite_Index_sound,fun p h=>by cases h⟩) (A:=F_internal_stringslite_Cut_ann) (f:=218) (fn:=Tryz.f218) (s:=F_internal_stringslite_Cut_sig) Tryz.func218
 rw [F_internal_stringslite_Cut_text] at h
 exact h
theorem F_strings_Cut_sound {T:Tab}:SoundFn Tryz.prog T 205 F_strings_Cut_sig ⟨F_strings_Cut⟩:=by
 have h:=fn_sound (T:=T) (E:=F_strings_Cut_env) (by unfold Env.ok;exact List.forall_mem_cons.2 ⟨F_internal_stringslite_Cut_sound,fun p h=>by cases h⟩) (A:=F_strings_Cut_ann) (f:=205) (fn:=Tryz.f205) (s:=F_strings_Cut_sig) Tryz.func205
 rw [F_strings_Cut_text] at h
 exact h
theorem F_stat_split_sound {T:Tab}:SoundFn Tryz.prog T 182 F_stat_split_sig ⟨F_stat_split⟩:=by
 have h:=fn_sound (T:=T) (E:=F_stat_split_env) (by unfold Env.ok;exact List.forall_mem_cons.2 ⟨F_strings_Cut_sound,fun p h=>by cases h⟩) (A:=F_stat_split_ann) (f:=182) (fn:=Tryz.f182) (s:=F_stat_split_sig) Tryz.func182
 rw [F_stat_split_text] at h
 exact h
theorem F_stat_Get_sound {T:Tab} (h_maxlen:has_maxlen T):SoundFn Tryz.prog T 156 F_stat_Get_sig ⟨F_stat_Get⟩:=by
 have h:=fn_sound (T:=T) (E:=F_stat_Get_env) (by unfold Env.ok;exact List.forall_mem_cons.2 ⟨F_stat_split_sound,List.forall_mem_cons.2 ⟨F_strings_Split_sound h_maxlen,fun p h=>by cases h⟩⟩) (A:=F_stat_Get_ann) (f:=156) (fn:=Tryz.f156) (s:=F_stat_Get_sig) Tryz.func156
 rw [F_stat_Get_text] at h
 exact h
theorem F_dyn_Table_Get_sound {T:Tab}:SoundFn Tryz.prog T 157 F_dyn_Table_Get_sig ⟨F_dyn_Table_Get⟩:=by
 have h:=fn_sound (T:=T) (E:=F_dyn_Table_Get_env) (by unfold Env.ok;exact fun p h=>by cases h) (A:=F_dyn_Table_Get_ann) (f:=157) (fn:=Tryz.f157) (s:=F_dyn_Table_Get_sig) Tryz.func157
 rw [F_dyn_Table_Get_text] at h
 exact h
theorem F_unpack_block_at_sound {T:Tab} (h_maxlen:has_maxlen T):SoundFn Tryz.prog T 111 F_unpack_block_at_sig ⟨F_unpack_block_at⟩:=by
 have h:=fn_sound (T:=T) (E:=F_unpack_block_at_env) (by unfold Env.ok;exact List.forall_mem_cons.2 ⟨F_stat_Get_sound h_maxlen,List.forall_mem_cons.2 ⟨F_dyn_Table_Get_sound,fun p h=>by cases h⟩⟩) (A:=F_unpack_block_at_ann) (f:=111) (fn:=Tryz.f111) (s:=F_unpack_block_at_sig) Tryz.func111
 rw [F_unpack_block_at_text] at h
 exact h
theorem F_unpack_block_text_sound {T:Tab}:SoundFn Tryz.prog T 154 F_unpack_block_text_sig ⟨F_unpack_block_text⟩:=by
 have h:=fn_sound (T:=T) (E:=F_unpack_block_text_env) (by unfold Env.ok;exact List.forall_mem_cons.2 ⟨F_unpack_block_number_sound,fun p h=>by cases h⟩) (A:=F_unpack_block_text_ann) (f:=154) (fn:=Tryz.f154) (s:=F_unpack_block_text_sig) Tryz.func154
 rw [F_unpack_block_text_text] at h
 exact h
theorem F_unpack_block_literal_sound {T:Tab} (h_maxlen:has_maxlen T):SoundFn Tryz.prog T 109 F_unpack_block_literal_sig ⟨F_unpack_block_literal⟩:=by
 have h:=fn_sound (T:=T) (E:=F_unpack_block_literal_env) (by unfold Env.ok;exact List.forall_mem_cons.2 ⟨F_unpack_block_number_sound,List.forall_mem_cons.2 ⟨F_unpack_block_at_sound h_maxlen,List.forall_mem_cons.2 ⟨F_unpack_block_text_sound,fun p h=>by cases h⟩⟩⟩) (A:=F_unpack_block_literal_ann) (f:=109) (fn:=Tryz.f109) (s:=F_unpack_block_literal_sig) Tryz.func109
 rw [F_unpack_block_literal_text] at h
 exact h
theorem F_dyn_Table_Add_sound {T:Tab}:SoundFn Tryz.prog T 112 F_dyn_Table_Add_sig ⟨F_dyn_Table_Add⟩:=by
 have h:=fn_sound (T:=T) (E:=F_dyn_Table_Add_env) (by unfold Env.ok;exact List.forall_mem_cons.2 ⟨F_dyn_Table_shrinks_sound,List.forall_mem_cons.2 ⟨F_stat_Size_sound,fun p h=>by cases h⟩⟩) (A:=F_dyn_Table_Add_ann) (f:=112) (fn:=Tryz.f112) (s:=F_dyn_Table_Add_sig) Tryz.func112
 rw [F_dyn_Table_Add_text] at h
 exact h
theorem F_unpack_block_keep_sound {T:Tab}:SoundFn Tryz.prog T 113 F_unpack_block_keep_sig ⟨F_unpack_block_keep⟩:=by
 have h:=fn_sound (T:=T) (E:=F_unpack_block_keep_env) (by unfold Env.ok;exact List.forall_mem_cons.2 ⟨F_stat_Size_sound,fun p h=>by cases h⟩) (A:=F_unpack_block_keep_ann) (f:=113) (fn:=Tryz.f113) (s:=F_unpack_block_keep_sig) Tryz.func113
 rw [F_unpack_block_keep_text] at h
 exact h
theorem F_unpack_block_read_sound {T:Tab} (h_maxlen:has_maxlen T):SoundFn Tryz.prog T 58 F_unpack_block_read_sig ⟨F_unpack_block_read⟩:=by
 have h:=fn_sound (T:=T) (E:=F_unpack_block_read_env) (by unfold Env.ok;exact List.forall_mem_cons.2 ⟨F_dyn_Table_Limit_sound,List.forall_mem_cons.2 ⟨F_unpack_block_literal_sound h_maxlen,List.forall_mem_cons.2 ⟨F_unpack_block_number_sound,List.forall_mem_cons.2 ⟨F_unpack_block_at_sound h_maxlen,List.forall_mem_cons.2 ⟨F_dyn_Table_Add_sound,List.forall_mem_cons.2 ⟨F_unpack_block_keep_sound,fun p h=>by cases h⟩⟩⟩⟩⟩⟩) (A:=F_unpack_block_read_ann) (f:=58) (fn:=Tryz.f58) (s:=F_unpack_block_read_sig) Tryz.func58
 rw [F_unpack_block_read_text] at h
 exact h
theorem F_unpack_Dec_Decode_sound {T:Tab} (h_maxlen:has_maxlen T):SoundFn Tryz.prog T 14 F_unpack_Dec_Decode_sig ⟨F_unpack_Dec_Decode⟩:=by
 have h:=fn_sound (T:=T) (E:=F_unpack_Dec_Decode_env) (by unfold Env.ok;exact List.forall_mem_cons.2 ⟨F_slices_Clone_byte_byte_sound,List.forall_mem_cons.2 ⟨F_unpack_block_read_sound h_maxlen,fun p h=>by cases h⟩⟩) (A:=F_unpack_Dec_Decode_ann) (f:=14) (fn:=Tryz.f14) (s:=F_unpack_Dec_Decode_sig) Tryz.func14
 rw [F_unpack_Dec_Decode_text] at h
 exact h
theorem F_conn_Conn_begins_sound {T:Tab}:SoundFn Tryz.prog T 186 F_conn_Conn_begins_sig ⟨F_conn_Conn_begins⟩:=by
 have h:=fn_sound (T:=T) (E:=F_conn_Conn_begins_env) (by unfold Env.ok;exact List.forall_mem_cons.2 ⟨F_conn_Conn_turns_sound,fun p h=>by cases h⟩) (A:=F_conn_Conn_begins_ann) (f:=186) (fn:=Tryz.f186) (s:=F_conn_Conn_begins_sig) Tryz.func186
 rw [F_conn_Conn_begins_text] at h
 exact h
theorem F_conn_Conn_ends_sound {T:Tab} (h_maxlen:has_maxlen T):SoundFn Tryz.prog T 162 F_conn_Conn_ends_sig ⟨F_conn_Conn_ends⟩:=by
 have h:=fn_sound (T:=T) (E:=F_conn_Conn_ends_env) (by unfold Env.ok;exact List.forall_mem_cons.2 ⟨F_unpack_Dec_Decode_sound h_maxlen,List.forall_mem_cons.2 ⟨F_conn_Conn_State_sound,List.forall_mem_cons.2 ⟨F_conn_Conn_lays_sound,List.forall_mem_cons.2 ⟨F_conn_Conn_dies_sound,List.forall_mem_cons.2 ⟨F_conn_Conn_turns_sound,List.forall_mem_cons.2 ⟨F_conn_Conn_tells_sound,List.forall_mem_cons.2 ⟨F_conn_Conn_faults_sound,List.forall_mem_cons.2 ⟨F_part_Rst_sound,List.forall_mem_cons.2 ⟨F_life_Recv_sound,List.forall_mem_cons.2 ⟨F_conn_Conn_begins_sound,fun p h=>by cases h⟩⟩⟩⟩⟩⟩⟩⟩⟩⟩) (A:=F_conn_Conn_ends_ann) (f:=162) (fn:=Tryz.f162) (s:=F_conn_Conn_ends_sig) Tryz.func162
 rw [F_conn_Conn_ends_text] at h
 exact h
theorem F_conn_Conn_goesOn_sound {T:Tab} (h_maxlen:has_maxlen T):SoundFn Tryz.prog T 127 F_conn_Conn_goesOn_sig ⟨F_conn_Conn_goesOn⟩:=by
 have h:=fn_sound (T:=T) (E:=F_conn_Conn_goesOn_env) (by unfold Env.ok;exact List.forall_mem_cons.2 ⟨F_conn_Conn_dies_sound,List.forall_mem_cons.2 ⟨F_conn_Conn_ends_sound h_maxlen,fun p h=>by cases h⟩⟩) (A:=F_conn_Conn_goesOn_ann) (f:=127) (fn:=Tryz.f127) (s:=F_conn_Conn_goesOn_sig) Tryz.func127
 rw [F_conn_Conn_goesOn_text] at h
 exact h
theorem F_conn_Conn_headers_sound {T:Tab} (h_maxlen:has_maxlen T):SoundFn Tryz.prog T 126 F_conn_Conn_headers_sig ⟨F_conn_Conn_headers⟩:=by
 have h:=fn_sound (T:=T) (E:=F_conn_Conn_headers_env) (by unfold Env.ok;exact List.forall_mem_cons.2 ⟨F_conn_Conn_Open_sound,List.forall_mem_cons.2 ⟨F_conn_Conn_State_sound,List.forall_mem_cons.2 ⟨F_conn_Conn_dies_sound,List.forall_mem_cons.2 ⟨F_conn_Conn_goesOn_sound h_maxlen,List.forall_mem_cons.2 ⟨F_life_Recv_sound,fun p h=>by cases h⟩⟩⟩⟩⟩) (A:=F_conn_Conn_headers_ann) (f:=126) (fn:=Tryz.f126) (s:=F_conn_Conn_headers_sig) Tryz.func126
 rw [F_conn_Conn_headers_text] at h
 exact h
theorem F_conn_Conn_rst_sound {T:Tab}:SoundFn Tryz.prog T 128 F_conn_Conn_rst_sig ⟨F_conn_Conn_rst⟩:=by
 have h:=fn_sound (T:=T) (E:=F_conn_Conn_rst_env) (by unfold Env.ok;exact List.forall_mem_cons.2 ⟨F_conn_Conn_State_sound,List.forall_mem_cons.2 ⟨F_conn_Conn_dies_sound,List.forall_mem_cons.2 ⟨F_conn_Conn_turns_sound,List.forall_mem_cons.2 ⟨F_conn_Conn_tells_sound,List.forall_mem_cons.2 ⟨F_life_Recv_sound,fun p h=>by cases h⟩⟩⟩⟩⟩) (A:=F_conn_Conn_rst_ann) (f:=128) (fn:=Tryz.f128) (s:=F_conn_Conn_rst_sig) Tryz.func128
 rw [F_conn_Conn_rst_text] at h
 exact h
theorem F_conn_Conn_windows_sound {T:Tab}:SoundFn Tryz.prog T 90 F_conn_Conn_windows_sig ⟨F_conn_Conn_windows⟩:=by
 have h:=fn_sound (T:=T) (E:=F_conn_Conn_windows_env) (by unfold Env.ok;exact List.forall_mem_cons.2 ⟨F_flow_Windows_sound,fun p h=>by cases h⟩) (A:=F_conn_Conn_windows_ann) (f:=90) (fn:=Tryz.f90) (s:=F_conn_Conn_windows_sig) Tryz.func90
 rw [F_conn_Conn_windows_text] at h
 exact h
theorem F_sets_wrong_sound {T:Tab}:SoundFn Tryz.prog T 187 F_sets_wrong_sig ⟨F_sets_wrong⟩:=by
 have h:=fn_sound (T:=T) (E:=F_sets_wrong_env) (by unfold Env.ok;exact fun p h=>by cases h) (A:=F_sets_wrong_ann) (f:=187) (fn:=Tryz.f187) (s:=F_sets_wrong_sig) Tryz.func187
 rw [F_sets_wrong_text] at h
 exact h
theorem F_sets_Apply_sound {T:Tab}:SoundFn Tryz.prog T 163 F_sets_Apply_sig ⟨F_sets_Apply⟩:=by
 have h:=fn_sound (T:=T) (E:=F_sets_Apply_env) (by unfold Env.ok;exact List.forall_mem_cons.2 ⟨F_sets_wrong_sound,fun p h=>by cases h⟩) (A:=F_sets_Apply_ann) (f:=163) (fn:=Tryz.f163) (s:=F_sets_Apply_sig) Tryz.func163
 rw [F_sets_Apply_text] at h
 exact h
theorem F_pack_Enc_Peer_sound {T:Tab}:SoundFn Tryz.prog T 165 F_pack_Enc_Peer_sig ⟨F_pack_Enc_Peer⟩:=by
 have h:=fn_sound (T:=T) (E:=F_pack_Enc_Peer_env) (by unfold Env.ok;exact List.forall_mem_cons.2 ⟨F_dyn_Table_Limit_sound,fun p h=>by cases h⟩) (A:=F_pack_Enc_Peer_ann) (f:=165) (fn:=Tryz.f165) (s:=F_pack_Enc_Peer_sig) Tryz.func165
 rw [F_pack_Enc_Peer_text] at h
 exact h
theorem F_conn_Conn_settings_sound {T:Tab}:SoundFn Tryz.prog T 129 F_conn_Conn_settings_sig ⟨F_conn_Conn_settings⟩:=by
 have h:=fn_sound (T:=T) (E:=F_conn_Conn_settings_env) (by unfold Env.ok;exact List.forall_mem_cons.2 ⟨F_conn_Conn_Open_sound,List.forall_mem_cons.2 ⟨F_conn_Conn_lays_sound,List.forall_mem_cons.2 ⟨F_part_Settings_sound,List.forall_mem_cons.2 ⟨F_conn_Conn_dies_sound,List.forall_mem_cons.2 ⟨F_conn_Conn_windows_sound,List.forall_mem_cons.2 ⟨F_flow_Stream_sound,List.forall_mem_cons.2 ⟨F_sets_Apply_sound,List.forall_mem_cons.2 ⟨F_flow_Shift_sound,List.forall_mem_cons.2 ⟨F_pack_Enc_Peer_sound,fun p h=>by cases h⟩⟩⟩⟩⟩⟩⟩⟩⟩) (A:=F_conn_Conn_settings_ann) (f:=129) (fn:=Tryz.f129) (s:=F_conn_Conn_settings_sig) Tryz.func129
 rw [F_conn_Conn_settings_text] at h
 exact h
theorem F_conn_Conn_update_sound {T:Tab}:SoundFn Tryz.prog T 130 F_conn_Conn_update_sig ⟨F_conn_Conn_update⟩:=by
 have h:=fn_sound (T:=T) (E:=F_conn_Conn_update_env) (by unfold Env.ok;exact List.forall_mem_cons.2 ⟨F_conn_Conn_State_sound,List.forall_mem_cons.2 ⟨F_conn_Conn_dies_sound,List.forall_mem_cons.2 ⟨F_conn_stream_open_sound,List.forall_mem_cons.2 ⟨F_conn_Conn_windows_sound,List.forall_mem_cons.2 ⟨F_flow_Stream_sound,List.forall_mem_cons.2 ⟨F_flow_Conn_sound,List.forall_mem_cons.2 ⟨F_conn_Conn_faults_sound,List.forall_mem_cons.2 ⟨F_flow_Windows_sound,List.forall_mem_cons.2 ⟨F_life_Recv_sound,List.forall_mem_cons.2 ⟨F_flow_Grant_sound,fun p h=>by cases h⟩⟩⟩⟩⟩⟩⟩⟩⟩⟩) (A:=F_conn_Conn_update_ann) (f:=130) (fn:=Tryz.f130) (s:=F_conn_Conn_update_sig) Tryz.func130
 rw [F_conn_Conn_update_text] at h
 exact h
theorem F_conn_Conn_reads_sound {T:Tab} (h_maxlen:has_maxlen T):SoundFn Tryz.prog T 73 F_conn_Conn_reads_sig ⟨F_conn_Conn_reads⟩:=by
 have h:=fn_sound (T:=T) (E:=F_conn_Conn_reads_env) (by unfold Env.ok;exact List.forall_mem_cons.2 ⟨F_conn_Conn_State_sound,List.forall_mem_cons.2 ⟨F_part_Read_sound,List.forall_mem_cons.2 ⟨F_part_Ping_sound,List.forall_mem_cons.2 ⟨F_conn_Conn_lays_sound,List.forall_mem_cons.2 ⟨F_conn_Conn_dies_sound,List.forall_mem_cons.2 ⟨F_conn_Conn_misplaced_sound,List.forall_mem_cons.2 ⟨F_conn_Conn_faults_sound,List.forall_mem_cons.2 ⟨F_conn_Conn_data_sound,List.forall_mem_cons.2 ⟨F_conn_Conn_headers_sound h_maxlen,List.forall_mem_cons.2 ⟨F_conn_Conn_goesOn_sound h_maxlen,List.forall_mem_cons.2 ⟨F_conn_Conn_rst_sound,List.forall_mem_cons.2 ⟨F_conn_Conn_settings_sound,List.forall_mem_cons.2 ⟨F_conn_Conn_update_sound,fun p h=>by cases h⟩⟩⟩⟩⟩⟩⟩⟩⟩⟩⟩⟩⟩) (A:=F_conn_Conn_reads_ann) (f:=73) (fn:=Tryz.f73) (s:=F_conn_Conn_reads_sig) Tryz.func73
 rw [F_conn_Conn_reads_text] at h
 exact h
theorem F_conn_Conn_Feed_sound {T:Tab} (h_maxlen:has_maxlen T):SoundFn Tryz.prog T 26 F_conn_Conn_Feed_sig ⟨F_conn_Conn_Feed⟩:=by
 have h:=fn_sound (T:=T) (E:=F_conn_Conn_Feed_env) (by unfold Env.ok;exact List.forall_mem_cons.2 ⟨F_frame_Parser_Feed_sound,List.forall_mem_cons.2 ⟨F_frame_Parser_Next_sound,List.forall_mem_cons.2 ⟨F_conn_Conn_dies_sound,List.forall_mem_cons.2 ⟨F_conn_Conn_reads_sound h_maxlen,fun p h=>by cases h⟩⟩⟩⟩) (A:=F_conn_Conn_Feed_ann) (f:=26) (fn:=Tryz.f26) (s:=F_conn_Conn_Feed_sig) Tryz.func26
 rw [F_conn_Conn_Feed_text] at h
 exact h
theorem F_conn_Conn_Dead_sound {T:Tab}:SoundFn Tryz.prog T 27 F_conn_Conn_Dead_sig ⟨F_conn_Conn_Dead⟩:=by
 have h:=fn_sound (T:=T) (E:=F_conn_Conn_Dead_env) (by unfold Env.ok;exact fun p h=>by cases h) (A:=F_conn_Conn_Dead_ann) (f:=27) (fn:=Tryz.f27) (s:=F_conn_Conn_Dead_sig) Tryz.func27
 rw [F_conn_Conn_Dead_text] at h
 exact h
theorem F_conn_Conn_Take_sound {T:Tab}:SoundFn Tryz.prog T 32 F_conn_Conn_Take_sig ⟨F_conn_Conn_Take⟩:=by
 have h:=fn_sound (T:=T) (E:=F_conn_Conn_Take_env) (by unfold Env.ok;exact List.forall_mem_cons.2 ⟨F_slices_Clone_byte_byte_sound,fun p h=>by cases h⟩) (A:=F_conn_Conn_Take_ann) (f:=32) (fn:=Tryz.f32) (s:=F_conn_Conn_Take_sig) Tryz.func32
 rw [F_conn_Conn_Take_text] at h
 exact h
theorem F_wlvref10_num_sound {T:Tab}:SoundFn Tryz.prog T 119 F_wlvref10_num_sig ⟨F_wlvref10_num⟩:=by
 have h:=fn_sound (T:=T) (E:=F_wlvref10_num_env) (by unfold Env.ok;exact fun p h=>by cases h) (A:=F_wlvref10_num_ann) (f:=119) (fn:=Tryz.f119) (s:=F_wlvref10_num_sig) Tryz.func119
 rw [F_wlvref10_num_text] at h
 exact h
theorem F_wlvref10_Put_sound {T:Tab}:SoundFn Tryz.prog T 67 F_wlvref10_Put_sig ⟨F_wlvref10_Put⟩:=by
 have h:=fn_sound (T:=T) (E:=F_wlvref10_Put_env) (by unfold Env.ok;exact List.forall_mem_cons.2 ⟨F_wlvref10_num_sound,fun p h=>by cases h⟩) (A:=F_wlvref10_Put_ann) (f:=67) (fn:=Tryz.f67) (s:=F_wlvref10_Put_sig) Tryz.func67
 rw [F_wlvref10_Put_text] at h
 exact h
theorem F_wlvref10_Settings_sound {T:Tab}:SoundFn Tryz.prog T 80 F_wlvref10_Settings_sig ⟨F_wlvref10_Settings⟩:=by
 have h:=fn_sound (T:=T) (E:=F_wlvref10_Settings_env) (by unfold Env.ok;exact List.forall_mem_cons.2 ⟨F_wlvref10_num_sound,fun p h=>by cases h⟩) (A:=F_wlvref10_Settings_ann) (f:=80) (fn:=Tryz.f80) (s:=F_wlvref10_Settings_sig) Tryz.func80
 rw [F_wlvref10_Settings_text] at h
 exact h
theorem F_wlvlaw23_hello_sound {T:Tab}:SoundFn Tryz.prog T 33 F_wlvlaw23_hello_sig ⟨F_wlvlaw23_hello⟩:=by
 have h:=fn_sound (T:=T) (E:=F_wlvlaw23_hello_env) (by unfold Env.ok;exact List.forall_mem_cons.2 ⟨F_wlvref10_Put_sound,List.forall_mem_cons.2 ⟨F_wlvref10_Settings_sound,fun p h=>by cases h⟩⟩) (A:=F_wlvlaw23_hello_ann) (f:=33) (fn:=Tryz.f33) (s:=F_wlvlaw23_hello_sig) Tryz.func33
 rw [F_wlvlaw23_hello_text] at h
 exact h
theorem F_conn_Conn_Queue_sound {T:Tab}:SoundFn Tryz.prog T 34 F_conn_Conn_Queue_sig ⟨F_conn_Conn_Queue⟩:=by
 have h:=fn_sound (T:=T) (E:=F_conn_Conn_Queue_env) (by unfold Env.ok;exact fun p h=>by cases h) (A:=F_conn_Conn_Queue_ann) (f:=34) (fn:=Tryz.f34) (s:=F_conn_Conn_Queue_sig) Tryz.func34
 rw [F_conn_Conn_Queue_text] at h
 exact h
theorem F_wlvlaw23_first_sound {T:Tab} (h_maxlen:has_maxlen T):SoundFn Tryz.prog T 24 F_wlvlaw23_first_sig ⟨F_wlvlaw23_first⟩:=by
 have h:=fn_sound (T:=T) (E:=F_wlvlaw23_first_env) (by unfold Env.ok;exact List.forall_mem_cons.2 ⟨F_conn_New_sound,List.forall_mem_cons.2 ⟨F_conn_Conn_Feed_sound h_maxlen,List.forall_mem_cons.2 ⟨F_conn_Conn_Dead_sound,List.forall_mem_cons.2 ⟨F_conn_Conn_Take_sound,List.forall_mem_cons.2 ⟨F_wlvlaw23_hello_sound,List.forall_mem_cons.2 ⟨F_conn_Conn_Queue_sound,List.forall_mem_cons.2 ⟨F_wlvref10_Ping_sound,List.forall_mem_cons.2 ⟨F_wlvref10_Put_sound,fun p h=>by cases h⟩⟩⟩⟩⟩⟩⟩⟩) (A:=F_wlvlaw23_first_ann) (f:=24) (fn:=Tryz.f24) (s:=F_wlvlaw23_first_sig) Tryz.func24
 rw [F_wlvlaw23_first_text] at h
 exact h
theorem F_wlvlaw23_framed_sound {T:Tab}:SoundFn Tryz.prog T 35 F_wlvlaw23_framed_sig ⟨F_wlvlaw23_framed⟩:=by
 have h:=fn_sound (T:=T) (E:=F_wlvlaw23_framed_env) (by unfold Env.ok;exact List.forall_mem_cons.2 ⟨F_wlvref10_Put_sound,fun p h=>by cases h⟩) (A:=F_wlvlaw23_framed_ann) (f:=35) (fn:=Tryz.f35) (s:=F_wlvlaw23_framed_sig) Tryz.func35
 rw [F_wlvlaw23_framed_text] at h
 exact h
theorem F_conn_Conn_Reset_sound {T:Tab}:SoundFn Tryz.prog T 40 F_conn_Conn_Reset_sig ⟨F_conn_Conn_Reset⟩:=by
 have h:=fn_sound (T:=T) (E:=F_conn_Conn_Reset_env) (by unfold Env.ok;exact List.forall_mem_cons.2 ⟨F_conn_Conn_resets_sound,fun p h=>by cases h⟩) (A:=F_conn_Conn_Reset_ann) (f:=40) (fn:=Tryz.f40) (s:=F_conn_Conn_Reset_sig) Tryz.func40
 rw [F_conn_Conn_Reset_text] at h
 exact h
theorem F_conn_Conn_Room_sound {T:Tab}:SoundFn Tryz.prog T 41 F_conn_Conn_Room_sig ⟨F_conn_Conn_Room⟩:=by
 have h:=fn_sound (T:=T) (E:=F_conn_Conn_Room_env) (by unfold Env.ok;exact List.forall_mem_cons.2 ⟨F_conn_stream_open_sound,fun p h=>by cases h⟩) (A:=F_conn_Conn_Room_ann) (f:=41) (fn:=Tryz.f41) (s:=F_conn_Conn_Room_sig) Tryz.func41
 rw [F_conn_Conn_Room_text] at h
 exact h
theorem F_conn_Conn_Grant_sound {T:Tab}:SoundFn Tryz.prog T 42 F_conn_Conn_Grant_sig ⟨F_conn_Conn_Grant⟩:=by
 have h:=fn_sound (T:=T) (E:=F_conn_Conn_Grant_env) (by unfold Env.ok;exact List.forall_mem_cons.2 ⟨F_conn_Conn_gives_sound,List.forall_mem_cons.2 ⟨F_conn_Conn_givesTo_sound,fun p h=>by cases h⟩⟩) (A:=F_conn_Conn_Grant_ann) (f:=42) (fn:=Tryz.f42) (s:=F_conn_Conn_Grant_sig) Tryz.func42
 rw [F_conn_Conn_Grant_text] at h
 exact h
theorem F_wlvlaw23_ConnWindows_sound {T:Tab} (h_maxlen:has_maxlen T):SoundFn Tryz.prog T 8 F_wlvlaw23_ConnWindows_sig ⟨F_wlvlaw23_ConnWindows⟩:=by
 have h:=fn_sound (T:=T) (E:=F_wlvlaw23_ConnWindows_env) (by unfold Env.ok;exact List.forall_mem_cons.2 ⟨F_wlvlaw23_first_sound h_maxlen,List.forall_mem_cons.2 ⟨F_conn_New_sound,List.forall_mem_cons.2 ⟨F_conn_Conn_Feed_sound h_maxlen,List.forall_mem_cons.2 ⟨F_conn_Conn_Dead_sound,List.forall_mem_cons.2 ⟨F_wlvlaw23_hello_sound,List.forall_mem_cons.2 ⟨F_wlvlaw23_framed_sound,List.forall_mem_cons.2 ⟨F_conn_Conn_State_sound,List.forall_mem_cons.2 ⟨F_conn_Conn_Reset_sound,List.forall_mem_cons.2 ⟨F_conn_Conn_Room_sound,List.forall_mem_cons.2 ⟨F_conn_Conn_Grant_sound,fun p h=>by cases h⟩⟩⟩⟩⟩⟩⟩⟩⟩⟩) (A:=F_wlvlaw23_ConnWindows_ann) (f:=8) (fn:=Tryz.f8) (s:=F_wlvlaw23_ConnWindows_sig) Tryz.func8
 rw [F_wlvlaw23_ConnWindows_text] at h
 exact h
end Go.Proofs.YtifbhefbhlbofaaGreatDoor
namespace Go.Proofs.YtifbhefbhlbofaaGreatDoor
namespace Pv
set_option linter.unusedVariables false
section
variable {S R T : Type} {body : S -> Option (R ⊕ S)} {s s' : S} {r r' : R}
theorem iter_uniq:∀ {n m:Nat} {s:S},iterC body n s=some r->iterC body m s=some r'->r=r'
 | 0,_,_,h,_=>by cases h
 | _+1,0,_,_,h=>by cases h
 | n+1,m+1,s,h,k=>by
  unfold iterC at h k
  split at h
  ·cases h
  ·rename_i x hx
   rw [hx] at k
   injection h with h;injection k with k
   exact h.symm.trans k
  ·rename_i x hx
   rw [hx] at k
   exact iter_uniq h k
theorem loop_of_iter {n:Nat} (h:iterC body n s=some r):loopC body s=some r:=by
 unfold loopC
 have hex:∃ r n,iterC body n s=some r:=⟨r,n,h⟩
 rw [dif_pos hex]
 obtain ⟨m,hm⟩:=hex.choose_spec
 rw [iter_uniq hm h]
theorem iter_of_loop' (h:loopC body s=some r):∃ n,iterC body n s=some r:=by
 unfold loopC at h
 split at h
 ·rename_i hex
  injection h with h
  obtain ⟨n,hn⟩:=hex.choose_spec
  exact ⟨n,by rw [hn,h]⟩
 ·cases h
theorem loop_inl (h:body s=some (.inl r)):loopC body s=some r:=loop_of_iter (n:=1) (by unfold iterC;rw [h])
theorem loop_inr (h:body s=some (.inr s')) (k:loopC body s'=some r):loopC body s=some r:=by
 obtain ⟨n,hn⟩:=iter_of_loop' k
 exact loop_of_iter (n:=n+1) (by unfold iterC;rw [h];exact hn)
theorem join_inl {A:Option (R⊕S)} {B:S->Option R} (h:A=some (.inl r)):joinC A B=some r:=by rw [h];rfl
theorem join_inr {A:Option (R⊕S)} {B:S->Option R} (h:A=some (.inr s)):joinC A B=B s:=by rw [h];rfl
theorem getI_of {α:Type} {l:List α} {j:Int} (h0:0<=j) (h1:j < l.length):∃ x,getI l j=some x /\ l[j.toNat]? = some x:=by
 have hlt:j.toNat < l.length:=by omega
 exact ⟨l[j.toNat],by unfold getI;rw [decide_eq_true h0];simp [hlt],by simp [hlt]⟩
end
end Pv
end Go.Proofs.YtifbhefbhlbofaaGreatDoor
namespace Go.Proofs.YtifbhefbhlbofaaGreatDoor
open Pv
set_option linter.unusedVariables false
theorem wB64 {x:Int} (h0 : -4611686018427387904<=x) (h1:x<=4611686018427387904):IntKind.i64.wrap x=x:=by
 show (if (true&&decide (x % 18446744073709551616 >= 9223372036854775808))=true then x % 18446744073709551616 - 18446744073709551616 else x % 18446744073709551616)=x
 simp only [Bool.true_and,decide_eq_true_eq]
 split <;> omega
theorem e40:(2:Int) ^ 40=1099511627776:=by decide
theorem w40:∀ n:Int,0<=n->n < 2 ^ 40->IntKind.i64.wrap n=n:=fun n h0 h1=>wB64 (by omega) (by rw [e40] at h1;omega)
theorem or8 {x y:Int} (hx:0<=x) (hx1:x < 1099511627776) (hm:x % 256=0) (hy:0<=y) (hy1:y < 256):bits .or .i64 x y=x+y:=
 bits_join .i64 40 (by decide) w40 8 x y hx hm (by rw [e40];exact hx1) hy hy1 (by rw [e40];omega)
theorem or16 {x y:Int} (hx:0<=x) (hx1:x < 1099511627776) (hm:x % 65536=0) (hy:0<=y) (hy1:y < 65536):bits .or .i64 x y=x+y:=
 bits_join .i64 40 (by decide) w40 16 x y hx hm (by rw [e40];exact hx1) hy hy1 (by rw [e40];omega)
theorem or24 {x y:Int} (hx:0<=x) (hx1:x < 1099511627776) (hm:x % 16777216=0) (hy:0<=y) (hy1:y < 16777216):bits .or .i64 x y=x+y:=
 bits_join .i64 40 (by decide) w40 24 x y hx hm (by rw [e40];exact hx1) hy hy1 (by rw [e40];omega)
theorem and31 {x:Int} (hx:0<=x) (hx1:x < 1099511627776):bits .and .i64 x 2147483647=x % 2147483648:=bits_mask .i64 40 (by decide) w40 31 (by decide) x hx (by rw [e40];exact hx1)
theorem num3 {a b c:Int} (ha:0<=a /\ a < 256) (hb:0<=b /\ b < 256) (hc:0<=c /\ c < 256) :
  bits .or .i64 (bits .or .i64 (IntKind.i64.wrap ((IntKind.i64.wrap a)*2 ^ 16)) (IntKind.i64.wrap ((IntKind.i64.wrap b)*2 ^ 8))) (IntKind.i64.wrap c)=a*65536+b*256+c:=by
 have e16:(2:Int) ^ 16=65536:=by decide
 have e8:(2:Int) ^ 8=256:=by decide
 rw [e16,e8,wB64 (x:=a) (by omega) (by omega),wB64 (x:=b) (by omega) (by omega),wB64 (x:=c) (by omega) (by omega),wB64 (x:=a*65536) (by omega) (by omega),wB64 (x:=b*256) (by omega) (by omega),
  or16 (x:=a*65536) (y:=b*256) (by omega) (by omega) (by omega) (by omega) (by omega),or8 (by omega) (by omega) (by omega) (by omega) (by omega)]
theorem num4 {a b c d:Int} (ha:0<=a /\ a < 256) (hb:0<=b /\ b < 256) (hc:0<=c /\ c < 256) (hd:0<=d /\ d < 256) :
  bits .or .i64 (bits .or .i64 (bits .or .i64 (IntKind.i64.wrap ((IntKind.i64.wrap a)*2 ^ 24)) (IntKind.i64.wrap ((IntKind.i64.wrap b)*2 ^ 16))) (IntKind.i64.wrap ((IntKind.i64.wrap c)*2 ^ 8))) (IntKind.i64.wrap d)=a*16777216+b*65536+c*256+d:=by
 have e24:(2:Int) ^ 24=16777216:=by decide
 have e16:(2:Int) ^ 16=65536:=by decide
 have e8:(2:Int) ^ 8=256:=by decide
 rw [e24,e16,e8,wB64 (x:=a) (by omega) (by omega),wB64 (x:=b) (by omega) (by omega),wB64 (x:=c) (by omega) (by omega),wB64 (x:=d) (by omega) (by omega),wB64 (x:=a*16777216) (by omega) (by omega),wB64 (x:=b*65536) (by omega) (by omega),wB64 (x:=c*256) (by omega) (by omega),
  or24 (x:=a*16777216) (y:=b*65536) (by omega) (by omega) (by omega) (by omega) (by omega),or16 (y:=c*256) (by omega) (by omega) (by omega) (by omega) (by omega),or8 (by omega) (by omega) (by omega) (by omega) (by omega)]
def hd9 (n k fl s:Int):List Int:=[n / 65536,n / 256 % 256,n % 256,k,fl,s / 16777216,s / 65536 % 256,s / 256 % 256,s % 256]
def fb (k fl s:Int) (body:List Int):List Int:=hd9 (body.length:Int) k fl s++body
theorem fb_len (k fl s:Int) (body:List Int):(fb k fl s body).length=9+body.length:=by
 unfold fb
 rw [List.length_append];rfl
def okFb (k fl s:Int) (body:List Int):Prop:=(0<=k /\ k < 256) /\ (0<=fl /\ fl < 256) /\ (0<=s /\ s<=2147483647) /\ body.length<=16384
theorem cutI_mid {α:Type} (a b c:List α) {m n:Int} (hm:m=(a.length:Int)) (hn:n=((a.length+b.length:Nat):Int)):cutI (a++b++c) m n=some b:=by
 subst hm;subst hn
 unfold cutI
 rw [decide_eq_true (by omega),decide_eq_true (by omega),decide_eq_true (by simp only [List.length_append];omega)]
 simp only [Bool.and_self,cond_true]
 rw [Int.toNat_natCast,Int.toNat_natCast,show a.length+b.length=(a++b).length by rw [List.length_append],List.take_left,List.drop_left]
theorem cutI_end {α:Type} (a b:List α) {m n:Int} (hm:m=(a.length:Int)) (hn:n=((a++b).length:Int)):cutI (a++b) m n=some b:=by
 have:=cutI_mid a b [] (m:=m) (n:=n) hm (by rw [hn,List.length_append])
 rwa [List.append_nil] at this
variable {p : Int} {Ps : List (Int × List Int)}
theorem next_fb {k fl s:Int} {body rest:List Int} (hp:nnI p=true) (hok:okFb k fl s body) (hg:getI Ps p=some (16384,fb k fl s body++rest)) (hr:rest.length<=1000000000) :
  F_frame_Parser_Next p Ps=some (k,fl,s,body,0,Ps.set p.toNat (16384,rest)):=by
 obtain ⟨hk,hfl,hs,hb⟩:=hok
 obtain ⟨n,hn⟩:∃ n:Int,(body.length:Int)=n:=⟨_,rfl⟩
 have hn0:0<=n /\ n<=16384:=by omega
 have hX:fb k fl s body++rest=hd9 n k fl s++body++rest:=by unfold fb;rw [hn]
 have hlen:((fb k fl s body++rest).length:Int)=9+n+(rest.length:Int):=by rw [List.length_append,fb_len];omega
 have g0:getI (fb k fl s body++rest) 0=some (n / 65536):=by rw [hX];rfl
 have g1:getI (fb k fl s body++rest) 1=some (n / 256 % 256):=by rw [hX];rfl
 have g2:getI (fb k fl s body++rest) 2=some (n % 256):=by rw [hX];rfl
 have g3:getI (fb k fl s body++rest) 3=some k:=by rw [hX];rfl
 have g4:getI (fb k fl s body++rest) 4=some fl:=by rw [hX];rfl
 have g5:getI (fb k fl s body++rest) 5=some (s / 16777216):=by rw [hX];rfl
 have g6:getI (fb k fl s body++rest) 6=some (s / 65536 % 256):=by rw [hX];rfl
 have g7:getI (fb k fl s body++rest) 7=some (s / 256 % 256):=by rw [hX];rfl
 have g8:getI (fb k fl s body++rest) 8=some (s % 256):=by rw [hX];rfl
 have h3:bits .or .i64 (bits .or .i64 (IntKind.i64.wrap ((IntKind.i64.wrap (n / 65536))*2 ^ 16)) (IntKind.i64.wrap ((IntKind.i64.wrap (n / 256 % 256))*2 ^ 8))) (IntKind.i64.wrap (n % 256))=n:=by
  rw [num3 (by omega) (by omega) (by omega)];omega
 have h4:bits .and .i64 (bits .or .i64 (bits .or .i64 (bits .or .i64 (IntKind.i64.wrap ((IntKind.i64.wrap (s / 16777216))*2 ^ 24)) (IntKind.i64.wrap ((IntKind.i64.wrap (s / 65536 % 256))*2 ^ 16))) (IntKind.i64.wrap ((IntKind.i64.wrap (s / 256 % 256))*2 ^ 8))) (IntKind.i64.wrap (s % 256))) 2147483647=s:=by
  rw [num4 (by omega) (by omega) (by omega) (by omega),show s / 16777216*16777216+s / 65536 % 256*65536+s / 256 % 256*256+s % 256=s by omega,and31 (by omega) (by omega)]
  omega
 have hc:cutI (fb k fl s body++rest) 9 (9+n)=some body:=by
  rw [hX]
  exact cutI_mid _ _ _ rfl (by show 9+n=((9+body.length:Nat):Int);omega)
 have hc2:cutI (fb k fl s body++rest) (9+n) (9+n+(rest.length:Int))=some rest:=by
  refine cutI_end _ _ ?_ ?_
  ·rw [fb_len];omega
  ·rw [List.length_append,fb_len];omega
 unfold F_frame_Parser_Next
 refine join_inl ?_
 unfold chk
 simp only [hp,cond_true,hg,Option.bind_some,hlen,g0,g1,g2,g3,g4,g5,g6,g7,g8,h3,h4]
 rw [decide_eq_false (show ¬ 9+n+(rest.length:Int) < 9 by omega),cond_false,decide_eq_false (show ¬ n > 16384 by omega),cond_false,wB64 (x:=9+n+(rest.length:Int) - 9) (by omega) (by omega),decide_eq_false (show ¬ 9+n+(rest.length:Int) - 9 < n by omega),cond_false,wB64 (x:=9+n) (by omega) (by omega),hc,Option.bind_some]
 unfold F_bytes_Clone
 rw [Nat.ble_eq_true_of_le (show body.length<=100000000 by omega),cond_true,Option.bind_some,hc2,Option.bind_some,wB64 (x:=fl) (by omega) (by omega),wB64 (x:=k) (by omega) (by omega)]
theorem next_short {X:List Int} (hp:nnI p=true) (hg:getI Ps p=some (16384,X)) (hX:X.length < 9):F_frame_Parser_Next p Ps=some (0,0,0,[],4,Ps):=by
 unfold F_frame_Parser_Next
 refine (join_inr (s:=(0,(0,0,0,[],Ps))) ?_).trans ?_
 ·unfold chk
  rw [hp,cond_true,hg,Option.bind_some]
  dsimp only
  rw [decide_eq_true (by omega),cond_true]
 ·refine loop_inl ?_
  unfold F_frame_Parser_Next_G1 F_frame_Parser_Next_G1_0
  rfl
theorem feed_at {room:Int} {X Y:List Int} (hp:nnI p=true) (hg:getI Ps p=some (room,X)) (hl:X.length+Y.length<=100000000):F_frame_Parser_Feed p Y Ps=some (Ps.set p.toNat (room,X++Y)):=by
 unfold F_frame_Parser_Feed chk F_slices_Concat_byte_byte
 have e:([X,Y]:List (List Int)).flatten=X++Y:=by simp
 simp only [hp,cond_true,hg,Option.bind_some,e]
 rw [Nat.ble_eq_true_of_le (show (X++Y).length<=100000000 by rw [List.length_append];exact hl),Nat.ble_eq_true_of_le (show ([X,Y]:List (List Int)).length<=100000000 by simp)]
 rfl
theorem ckB {n m:Nat} (h:n+m<=1000000000):(decide ((n+m)*1<=140737488355328)&&decide (n+m<=maxLen))=true:=by
 have hm:maxLen=9223372036854775807:=rfl
 rw [Bool.and_eq_true,decide_eq_true_iff,decide_eq_true_iff]
 omega
def beL (n:Int):Nat->List Int
 | 0=>[]
 | k+1=>IntKind.u8.wrap (Int.fdiv n (2 ^ (8*k)))::beL n k
theorem beL_len (n:Int):∀ k,(beL n k).length=k
 | 0=>rfl
 | k+1=>by show (beL n k).length+1=_;rw [beL_len n k]
theorem u8w (x:Int):IntKind.u8.wrap x=x % 256:=by
 rw [IntKind.wrap_u8]
theorem u8_id {x:Int} (h0:0<=x) (h1:x<=255):IntKind.u8.wrap x=x:=by rw [u8w];omega
theorem num_loop (n:Int):∀ (k:Nat) (l:List Int),k<=8->l.length+k<=100->loopC (F_wlvref10_num_L4 n) (l,(k:Int) - 1)=some (.inr (l++beL n k))
 | 0,l,_,_=>by
  refine loop_inl ?_
  unfold F_wlvref10_num_L4
  dsimp only
  rw [decide_eq_false (by omega),cond_false]
  unfold beL
  rw [List.append_nil]
 | k+1,l,hk,hl=>by
  refine loop_inr (s':=(l++[IntKind.u8.wrap (Int.fdiv n (2 ^ (8*k)))],(k:Int) - 1)) ?_ ((num_loop n k _ (by omega) (by rw [List.length_append];show l.length+1+k<=_;omega)).trans (by rw [List.append_assoc];rfl))
  unfold F_wlvref10_num_L4 chk
  dsimp only
  have e:((k+1:Nat):Int) - 1=(k:Int):=by omega
  have e8:IntKind.i64.wrap (8*(k:Int))=8*(k:Int):=wB64 (by omega) (by omega)
  have eu:IntKind.u64.wrap (8*(k:Int))=8*(k:Int):=by
   show (8*(k:Int)) % 18446744073709551616=_
   omega
  have e9:(min (8*(k:Int)).toNat 64)=8*k:=by omega
  rw [e,decide_eq_true (show (k:Int) >= 0 by omega),cond_true,e8,eu,e9,decide_eq_true (show 0<=8*(k:Int) by omega),cond_true,ckB (by simp;omega),cond_true,wB64 (x:=(k:Int) - 1) (by omega) (by omega)]
theorem num_eq (n:Int) (k:Nat) (hk:k<=8):F_wlvref10_num n (k:Int)=some (beL n k):=by
 unfold F_wlvref10_num
 have h:=num_loop n k [] hk (by simp;omega)
 rw [wB64 (by omega) (by omega),join_inr h]
 rfl
theorem be4_eq {n:Int} (h0:0<=n) (h1:n < 4294967296):beL n 4=[n / 16777216,n / 65536 % 256,n / 256 % 256,n % 256]:=by
 unfold beL beL beL beL beL
 rw [u8w,u8w,u8w,u8w,Int.fdiv_eq_ediv_of_nonneg _ (by decide),Int.fdiv_eq_ediv_of_nonneg _ (by decide),Int.fdiv_eq_ediv_of_nonneg _ (by decide),Int.fdiv_eq_ediv_of_nonneg _ (by decide)]
 have e3:(2:Int) ^ (8*3)=16777216:=by decide
 have e2:(2:Int) ^ (8*2)=65536:=by decide
 have e1:(2:Int) ^ (8*1)=256:=by decide
 have e0:(2:Int) ^ (8*0)=1:=by decide
 rw [e3,e2,e1,e0,show n / 16777216 % 256=n / 16777216 by omega,Int.ediv_one]
theorem be3_eq {n:Int} (h0:0<=n) (h1:n < 16777216):beL n 3=[n / 65536,n / 256 % 256,n % 256]:=by
 unfold beL beL beL beL
 rw [u8w,u8w,u8w,Int.fdiv_eq_ediv_of_nonneg _ (by decide),Int.fdiv_eq_ediv_of_nonneg _ (by decide),Int.fdiv_eq_ediv_of_nonneg _ (by decide)]
 have e2:(2:Int) ^ (8*2)=65536:=by decide
 have e1:(2:Int) ^ (8*1)=256:=by decide
 have e0:(2:Int) ^ (8*0)=1:=by decide
 rw [e2,e1,e0,show n / 65536 % 256=n / 65536 by omega,Int.ediv_one]
theorem put_eq {k fl s:Int} {body:List Int} (h:okFb k fl s body):F_wlvref10_Put k fl s body=some (fb k fl s body,0):=by
 obtain ⟨hk,hf,hs,hb⟩:=h
 unfold F_wlvref10_Put
 rw [decide_eq_false (show ¬ k < 0 by omega),cond_false,decide_eq_false (show ¬ k > 255 by omega),cond_false,decide_eq_false (show ¬ fl < 0 by omega),cond_false,decide_eq_false (show ¬ fl > 255 by omega),cond_false,decide_eq_false (show ¬ s < 0 by omega),cond_false,
  decide_eq_false (show ¬ s > 2147483647 by omega),cond_false,decide_eq_false (show ¬ (body.length:Int) >= 16777216 by omega),cond_false]
 have h3:=num_eq (body.length:Int) 3 (by omega)
 have h4:=num_eq s 4 (by omega)
 have h3':F_wlvref10_num (body.length:Int) 3=some (beL (body.length:Int) 3):=h3
 have h4':F_wlvref10_num s 4=some (beL s 4):=h4
 rw [h3',Option.bind_some]
 unfold chk
 rw [ckB (by rw [beL_len];simp),cond_true,h4',Option.bind_some,ckB (by simp only [List.length_append,beL_len,List.length_cons,List.length_nil];omega),cond_true,ckB (by simp only [List.length_append,beL_len,List.length_cons,List.length_nil];omega),cond_true,u8_id (x:=k) (by omega) (by omega),u8_id (x:=fl) (by omega) (by omega)]
 rw [be3_eq (by omega) (by omega),be4_eq (by omega) (by omega)]
 rfl
theorem settings_eq (a:Bool):F_wlvref10_Settings [] a=some (4,cond a 1 0,0,[]):=by
 unfold F_wlvref10_Settings
 cases a
 ·exact (join_inr (s:=(0,0,0,[],4,0,0,[])) (loop_inl rfl)).trans rfl
 ·exact (join_inr (s:=(0,0,0,[],4,1,0,[])) (loop_inl rfl)).trans rfl
abbrev PrtD:=List Int×Int×Int×Int×Int×List (Int×Int)×Bool×Bool×Bool×Bool×Bool×Int
theorem eta12 (x:Option PrtD):(x.bind fun x5=>some (x5.1,x5.2.1,x5.2.2.1,x5.2.2.2.1,x5.2.2.2.2.1,x5.2.2.2.2.2.1,x5.2.2.2.2.2.2.1,x5.2.2.2.2.2.2.2.1,x5.2.2.2.2.2.2.2.2.1,x5.2.2.2.2.2.2.2.2.2.1,x5.2.2.2.2.2.2.2.2.2.2.1,x5.2.2.2.2.2.2.2.2.2.2.2))=x:=by cases x <;> rfl
theorem read0 (fl s:Int) (l:List Int):F_part_Read 0 fl s l=F_part_bodied 0 fl s l:=eta12 _
theorem read1 (fl s:Int) (l:List Int):F_part_Read 1 fl s l=F_part_bodied 1 fl s l:=eta12 _
theorem read4 (fl s:Int) (l:List Int):F_part_Read 4 fl s l=F_part_settings 4 fl s l:=eta12 _
theorem clone_eq {l:List Int} (h:l.length<=100000000):F_bytes_Clone l=some l:=by
 unfold F_bytes_Clone
 rw [Nat.ble_eq_true_of_le h,cond_true]
theorem cut_all (l:List Int) (h:l.length<=1000000000):cutI l 0 (IntKind.i64.wrap ((l.length:Int) - 0))=some l:=by
 rw [wB64 (by omega) (by omega)]
 exact cutI_end [] l rfl (by simp)
theorem bodied_data {fl s:Int} {body:List Int} (hs:(s==0)=false) (hf:(bits .and .i64 fl 8==0)=true) (hb:body.length<=16384):F_part_bodied 0 fl s body=some (body,0,0,0,0,[],decide (bits .and .i64 fl 1 > 0),false,false,false,false,0):=by
 unfold F_part_bodied
 refine (join_inr (s:=(0,(body,0,[],0,0,0,0,[],decide (bits .and .i64 fl 1 > 0),false,false,[],0,0,0,0,[],false,false,false,false,false,0))) ?_).trans (loop_inr (s':=(1,(body,0,[],0,0,0,0,[],decide (bits .and .i64 fl 1 > 0),false,false,[],0,0,0,0,[],false,false,false,false,false,0))) rfl (loop_inl ?_))
 ·rw [show ((0:Int)==1)=false from rfl,cond_false,hs,cond_false,hf,cond_true]
 ·unfold F_part_bodied_G1
  rw [show hasN [0] 1=false from rfl,cond_false,show hasN [1] 1=true from rfl,cond_true]
  unfold F_part_bodied_G1_1
  dsimp only
  rw [decide_eq_false (show ¬ (0:Int) > (body.length:Int) by omega),cond_false,cut_all body (by omega),Option.bind_some,clone_eq (by omega),Option.bind_some]
theorem bodied_head {fl s:Int} {body:List Int} (hs:(s==0)=false) (hf:(bits .and .i64 fl 8==0)=true) (hf2:(bits .and .i64 fl 32==0)=true) (hb:body.length<=16384) :
  F_part_bodied 1 fl s body=some (body,0,0,0,0,[],decide (bits .and .i64 fl 1 > 0),false,decide (bits .and .i64 fl 4 > 0),false,false,0):=by
 unfold F_part_bodied
 refine (join_inr (s:=(0,(body,0,[],0,0,0,0,[],decide (bits .and .i64 fl 1 > 0),false,decide (bits .and .i64 fl 4 > 0),[],0,0,0,0,[],false,false,false,false,false,0))) ?_).trans (loop_inr (s':=(1,(body,0,[],0,0,0,0,[],decide (bits .and .i64 fl 1 > 0),false,decide (bits .and .i64 fl 4 > 0),[],0,0,0,0,[],false,false,false,false,false,0))) ?_ (loop_inl ?_))
 ·rw [show ((1:Int)==1)=true from rfl,cond_true,hs,cond_false,hf,cond_true]
 ·unfold F_part_bodied_G1
  rw [show hasN [0] 0=true from rfl,cond_true]
  unfold F_part_bodied_G1_0
  dsimp only
  rw [show ((1:Int)==0)=false from rfl,cond_false,hf2,cond_true]
 ·unfold F_part_bodied_G1
  rw [show hasN [0] 1=false from rfl,cond_false,show hasN [1] 1=true from rfl,cond_true]
  unfold F_part_bodied_G1_1
  dsimp only
  rw [decide_eq_false (show ¬ (0:Int) > (body.length:Int) by omega),cond_false,cut_all body (by omega),Option.bind_some,clone_eq (by omega),Option.bind_some]
theorem read_settings (a:Bool):F_part_Read 4 (cond a 1 0) 0 []=some ([],0,0,0,0,[],false,a,false,false,false,0):=by
 rw [read4]
 cases a
 ·exact (join_inr (s:=(([]:List Int),0,0,0,0,([]:List (Int×Int)),false,false,false,false,false,0,([]:List Int),0,0,0,0,([]:List (Int×Int)),false,false,false)) (loop_inl rfl)).trans rfl
 ·exact (join_inr (s:=(([]:List Int),0,0,0,0,([]:List (Int×Int)),false,false,false,false,false,0,([]:List Int),0,0,0,0,([]:List (Int×Int)),false,true,false)) (loop_inl rfl)).trans rfl
theorem getI_set {α:Type} {l:List α} {j:Int} {x y:α} (h:getI l j=some y):getI (l.set j.toNat x) j=some x:=by
 unfold getI at h ⊢
 cases hd:decide (0<=j) with
 | false=>rw [hd] at h;cases h
 | true=>
  rw [hd,cond_true] at h
  rw [cond_true,List.getElem?_set,if_pos rfl,if_pos (List.getElem?_eq_some_iff.1 h).1]
theorem getI_nn {α:Type} {l:List α} {j:Int} {y:α} (h:getI l j=some y):nnI j=true:=by
 unfold getI at h
 unfold nnI
 cases hd:decide (0<=j) with
 | false=>rw [hd] at h;cases h
 | true=>rfl
theorem getI_new {α:Type} {l:List α} {y:α}:getI (l++[y]) (l.length:Int)=some y:=by
 unfold getI
 rw [decide_eq_true (by omega),cond_true,Int.toNat_natCast,List.getElem?_append_right (Nat.le_refl _),Nat.sub_self]
 rfl
theorem getI_new0 {α:Type} {l r:List α} {y:α}:getI (l++y::r) (l.length:Int)=some y:=by
 unfold getI
 rw [decide_eq_true (by omega),cond_true,Int.toNat_natCast,List.getElem?_append_right (Nat.le_refl _),Nat.sub_self]
 rfl
theorem set_two {α:Type} {l:List α} {j:Int} {x y:α}:(l.set j.toNat x).set j.toNat y=l.set j.toNat y:=List.set_set _
end Go.Proofs.YtifbhefbhlbofaaGreatDoor
namespace Go.Proofs.YtifbhefbhlbofaaGreatDoor
namespace Vc
open Ieee
def fl (n:Int):Nat:=FloatKind.f64.nearest n
end Vc
end Go.Proofs.YtifbhefbhlbofaaGreatDoor
namespace Go.Proofs.YtifbhefbhlbofaaGreatDoor
open Pv
set_option linter.unusedVariables false
def fz (a b:Int):Nat×Nat:=(Vc.fl a,Vc.fl b)
abbrev Fld:=List Int×List Int×Bool
abbrev PD:=Int×List Int
abbrev DD:=Int×Bool
abbrev TD:=List Fld×Int×Int
abbrev ED:=Int×Int×Int
abbrev BD:=Int×Int×Int×Bool×List Int
theorem set_new {α:Type} {l:List α} {x y:α}:(l++[x]).set (l.length:Int).toNat y=l++[y]:=by
 rw [Int.toNat_natCast,List.set_append_right _ _ (Nat.le_refl _),Nat.sub_self];rfl
theorem fput_eq {k fl s:Int} {body:List Int} (h:okFb k fl s body):F_frame_Put k fl s body=some (fb k fl s body,0):=by
 obtain ⟨hk,hf,hs,hb⟩:=h
 unfold F_frame_Put
 rw [decide_eq_false (show ¬ k < 0 by omega),cond_false,decide_eq_false (show ¬ k > 255 by omega),cond_false,decide_eq_false (show ¬ fl < 0 by omega),cond_false,decide_eq_false (show ¬ fl > 255 by omega),cond_false,decide_eq_false (show ¬ s < 0 by omega),cond_false,
  decide_eq_false (show ¬ s > 2147483647 by omega),cond_false,decide_eq_false (show ¬ (body.length:Int) > 16777215 by omega),cond_false]
 unfold chk
 rw [ckB (by simp only [List.length_cons,List.length_nil];omega),cond_true]
 have e24:(2:Int) ^ 24=16777216:=by decide
 have e16:(2:Int) ^ 16=65536:=by decide
 have e8:(2:Int) ^ 8=256:=by decide
 rw [e24,e16,e8]
 simp only [u8w,Int.fdiv_eq_ediv_of_nonneg _ (show (0:Int)<=16777216 by decide),Int.fdiv_eq_ediv_of_nonneg _ (show (0:Int)<=65536 by decide),Int.fdiv_eq_ediv_of_nonneg _ (show (0:Int)<=256 by decide)]
 unfold fb hd9
 rw [show (body.length:Int) / 65536 % 256=(body.length:Int) / 65536 by omega,show k % 256=k by omega,show fl % 256=fl by omega,show s / 16777216 % 256=s / 16777216 by omega]
theorem bits_loop (n:Int):∀ (k:Nat) (l:List Int),k<=8->l.length+k<=100->loopC (F_part_bits_L4 n) (l,(k:Int) - 1)=some (.inr (l++beL n k))
 | 0,l,_,_=>by
  refine loop_inl ?_
  unfold F_part_bits_L4
  dsimp only
  rw [decide_eq_false (by omega),cond_false]
  unfold beL
  rw [List.append_nil]
 | k+1,l,hk,hl=>by
  refine loop_inr (s':=(l++[IntKind.u8.wrap (Int.fdiv n (2 ^ (8*k)))],(k:Int) - 1)) ?_ ((bits_loop n k _ (by omega) (by rw [List.length_append];show l.length+1+k<=_;omega)).trans (by rw [List.append_assoc];rfl))
  unfold F_part_bits_L4 chk
  dsimp only
  have e:((k+1:Nat):Int) - 1=(k:Int):=by omega
  have e8:IntKind.i64.wrap (8*(k:Int))=8*(k:Int):=wB64 (by omega) (by omega)
  have e9:(min (8*(k:Int)).toNat 64)=8*k:=by omega
  rw [e,decide_eq_true (show (k:Int) >= 0 by omega),cond_true,e8,e9,decide_eq_true (show 0<=8*(k:Int) by omega),cond_true,ckB (by simp;omega),cond_true,wB64 (x:=(k:Int) - 1) (by omega) (by omega)]
theorem bits_eq (n:Int) (k:Nat) (hk:k<=8):F_part_bits n (k:Int)=some (beL n k):=by
 unfold F_part_bits
 have h:=bits_loop n k [] hk (by simp;omega)
 rw [wB64 (by omega) (by omega),join_inr h]
 rfl
theorem flag_eq (b:Bool) (n:Int):F_part_flag b n=some (cond b n 0):=by cases b <;> rfl
theorem psets_nil (a:Bool):F_part_Settings [] a=some (4,cond a 1 0,0,[]):=by
 unfold F_part_Settings
 rw [flag_eq,Option.bind_some]
 have h:loopC (S:=Int×Int×Int×Int×List Int×Int×Int×Int×List Int) (R:=(Int×Int×Int×List Int)⊕(Int×Int×Int×List Int×Int×Int×Int×List Int)) (F_part_Settings_L4 []) (0,0,0,0,([]:List Int),4,cond a 1 0,0,([]:List Int))=some (.inr (0,0,0,([]:List Int),4,cond a 1 0,0,([]:List Int))):=loop_inl rfl
 rw [join_inr h]
 rfl
theorem psets_step {l:List (Int×Int)} {i:Nat} {x:Int×Int} {a fl:Int} {acc:List Int} (hx:l[i]? = some x) (hi:l.length<=100) (ha:acc.length<=600):F_part_Settings_L4 l ((i:Int),0,0,0,[],a,fl,0,acc)=some (.inr (((i+1:Nat):Int),0,0,0,[],a,fl,0,acc++beL x.1 2++beL x.2 4)):=by
 have hil:i < l.length:=(List.getElem?_eq_some_iff.1 hx).1
 have b2:F_part_bits x.1 2=some (beL x.1 2):=bits_eq x.1 2 (by omega)
 have b4:F_part_bits x.2 4=some (beL x.2 4):=bits_eq x.2 4 (by omega)
 have hg:getI l (i:Int)=some x:=by
  unfold getI
  rw [decide_eq_true (Int.natCast_nonneg i),cond_true,Int.toNat_natCast,hx]
 unfold F_part_Settings_L4 chk
 dsimp only
 rw [decide_eq_true (show (i:Int) < (l.length:Int) by omega),cond_true,hg,Option.bind_some,b2,Option.bind_some,ckB (by rw [beL_len];omega),cond_true,b4,Option.bind_some,ckB (by rw [List.length_append,beL_len,beL_len];omega),cond_true,wB64 (x:=(i:Int)+1) (by omega) (by omega)]
 rfl
def setsB (n m:Int):List Int:=beL 3 2++beL n 4++(beL 6 2++beL m 4)
theorem setsB_len (n m:Int):(setsB n m).length=12:=by
 unfold setsB
 simp only [List.length_append,beL_len]
theorem psets_two (n m:Int):F_part_Settings [(3,n),(6,m)] false=some (4,0,0,setsB n m):=by
 unfold F_part_Settings
 rw [flag_eq,Option.bind_some]
 have h0:=psets_step (l:=[(3,n),(6,m)]) (i:=0) (a:=4) (fl:=0) (acc:=[]) rfl (by simp) (by simp)
 have h1:=psets_step (l:=[(3,n),(6,m)]) (i:=1) (a:=4) (fl:=0) (acc:=[]++beL 3 2++beL n 4) rfl (by simp) (by simp [beL_len])
 have h:loopC (S:=Int×Int×Int×Int×List Int×Int×Int×Int×List Int) (R:=(Int×Int×Int×List Int)⊕(Int×Int×Int×List Int×Int×Int×Int×List Int)) (F_part_Settings_L4 [(3,n),(6,m)]) (0,0,0,0,([]:List Int),4,cond false 1 0,0,([]:List Int))=some (.inr (0,0,0,([]:List Int),4,0,0,[]++beL 3 2++beL n 4++beL 6 2++beL m 4)):=
  loop_inr h0 (loop_inr h1 (loop_inl rfl))
 rw [join_inr h]
 unfold F_part_Settings_J2 setsB
 simp only [List.nil_append,List.append_assoc]
section
variable {p : Int} {M : List CnM} {C : List CnC} {S : List CnS} {P : List PD} {D : List DD} {T : List TD} {B : List BD} {E : List ED}
variable {r : Int × Bool × Int × Int × Int × Int} {streams enc code highest m send room : Int} {peer : Int × Int × Int × Int × Int × Int} {q cl : List Int} {dead stopped feeding : Bool} {ev : List CnE}
theorem puts_at {k fl s:Int} {body:List Int} (hC:getI C p=some (r,streams,peer,enc,q,dead,code,stopped,highest,m,cl,send,room,ev,feeding)) (h:okFb k fl s body) (hq:q.length<=900000000) :
  F_conn_Conn_puts p k fl s body C=some (C.set p.toNat (r,streams,peer,enc,q++fb k fl s body,dead,code,stopped,highest,m,cl,send,room,ev,feeding)):=by
 have hp:=getI_nn hC
 have hb:=h.2.2.2
 have he:eqI p p=true:=beq_self_eq_true p
 unfold F_conn_Conn_puts chk
 rw [fput_eq h,Option.bind_some]
 simp only [hp,cond_true,hC,Option.bind_some,he]
 rw [ckB (by rw [fb_len];omega),cond_true]
theorem lays_at {k fl s:Int} {body:List Int} (hC:getI C p=some (r,streams,peer,enc,q,false,code,stopped,highest,m,cl,send,room,ev,feeding)) (h:okFb k fl s body) (hq:q.length+9+body.length<=131072) :
  F_conn_Conn_lays p k fl s body P C=some (P,C.set p.toNat (r,streams,peer,enc,q++fb k fl s body,false,code,stopped,highest,m,cl,send,room,ev,feeding)):=by
 have hp:=getI_nn hC
 unfold F_conn_Conn_lays chk
 simp only [hp,cond_true,hC,Option.bind_some,cond_false,puts_at hC h (by omega),getI_set hC]
 rw [decide_eq_false (by rw [List.length_append,fb_len];omega),cond_false]
theorem shrinks_nil {t:Int} {n z m:Int} (hT:getI T t=some ([],z,m)):F_dyn_Table_shrinks t n T=some (T.set t.toNat ([],z,m)):=by
 have ht:=getI_nn hT
 unfold F_dyn_Table_shrinks
 refine (join_inr (s:=((0:Int),T)) (loop_inl ?_)).trans ?_
 ·unfold F_dyn_Table_shrinks_L2 chk
  simp only [ht,cond_true,hT,Option.bind_some]
  rfl
 ·unfold F_dyn_Table_shrinks_J1 chk
  have hc:cutI ([]:List Fld) 0 ((([]:List Fld).length:Nat):Int)=some []:=rfl
  have he:eqI t t=true:=by unfold eqI;exact beq_self_eq_true t
  simp only [ht,cond_true,hT,Option.bind_some,hc,he]
theorem limit_nil {t:Int} {n z m:Int} (h0:0<=n) (h1:n<=4096) (hT:getI T t=some ([],z,m)):F_dyn_Table_Limit t n T=some (0,T.set t.toNat ([],z,n)):=by
 have ht:=getI_nn hT
 unfold F_dyn_Table_Limit
 rw [decide_eq_false (show ¬ n < 0 by omega),decide_eq_false (show ¬ n > 4096 by omega)]
 show cond false _ _=_
 rw [cond_false]
 unfold chk F_slices_Clone_stat_Field_stat_Field
 have h2:=getI_set (x:=(([]:List Fld),z,n)) hT
 simp only [ht,cond_true,hT,Option.bind_some,shrinks_nil h2,h2,set_two]
 rfl
theorem dnew_at:F_dyn_New 4096 T=some ((T.length:Int),0,T++[([],(0,4096))]):=by
 have h:getI (T++[(([]:List Fld),((0:Int),(0:Int)))]) (T.length:Int)=some ([],0,0):=getI_new
 unfold F_dyn_New
 rw [limit_nil (by decide) (by decide) h,Option.bind_some]
 have e:(T++[(([]:List Fld),((0:Int),(0:Int)))]).set (T.length:Int).toNat ([],(0,4096))=T++[([],(0,4096))]:=by
  rw [Int.toNat_natCast,List.set_append_right _ _ (Nat.le_refl _),Nat.sub_self];rfl
 rw [e]
 rfl
abbrev c0 (n list:Int) (D:List DD) (P:List PD) (M:List CnM) (E:List ED):CnC:=((0,false,list,(D.length:Int),(P.length:Int),-1),n,(4096,1,2147483647,65535,16384,2147483647),(E.length:Int),fb 4 0 0 (setsB n list),false,0,false,0,(M.length:Int),[],65535,65535,[],false)
theorem cnew_at (n list:Int):F_conn_New n list D T P M C E=some ((C.length:Int),D++[((T.length:Int)+1,false)],T++[([],(0,4096)),([],(0,4096))],P++[(16384,[])],M++[[]],C++[c0 n list D P M E],E++[((T.length:Int),4096,4096)]):=by
 unfold F_conn_New F_sets_First F_pack_New F_unpack_New F_frame_New chk
 have hn:nnI (C.length:Int)=true:=decide_eq_true (by omega)
 simp only [Option.bind_some,dnew_at,hn,cond_true,getI_new,set_new,psets_two]
 rw [lays_at getI_new (k:=4) (fl:=0) (s:=0) ⟨by omega,by omega,by omega,by rw [setsB_len];omega⟩ (by rw [setsB_len];simp),Option.bind_some,set_new]
 have e1:((T++[(([]:List Fld),((0:Int),(4096:Int)))]).length:Int)=(T.length:Int)+1:=by rw [List.length_append];simp
 have e2:T++[(([]:List Fld),((0:Int),(4096:Int)))]++[([],(0,4096))]=T++[([],(0,4096)),([],(0,4096))]:=by rw [List.append_assoc];rfl
 rw [e1,e2]
 rfl
end
abbrev preL:List Int:=[80,82,73,32,42,32,72,84,84,80,47,50,46,48,13,10,13,10,83,77,13,10,13,10]
theorem set_same {α:Type} {l:List α} {j:Int} {x:α} (h:getI l j=some x):l.set j.toNat x=l:=by
 unfold getI at h
 cases hd:decide (0<=j) with
 | false=>rw [hd] at h;cases h
 | true=>
  rw [hd,cond_true] at h
  apply List.ext_getElem?
  intro i
  rw [List.getElem?_set]
  split
  ·rename_i e
   subst e
   rw [if_pos (List.getElem?_eq_some_iff.1 h).1,h]
  ·rfl
theorem getI_zero {α:Type} {x:α} {l:List α}:getI (x::l) 0=some x:=rfl
section
variable {p : Int} {M M' : List CnM} {C C' : List CnC} {S S' : List CnS} {P P' P'' : List PD} {D D' : List DD} {T T' : List TD} {B B' : List BD} {E E' : List ED}
variable {head list dec par blk streams enc code highest m send room : Int} {begun : Bool} {peer : Int × Int × Int × Int × Int × Int} {q cl : List Int} {dead stopped feeding : Bool} {ev : List CnE}
variable {b b0 body : List Int} {i1 i2 i3 k fl s : Int}
theorem feed3 {x:List Int×Int×Int×Int×List Int×List DD×List TD×List PD×List CnM×List CnC×List CnS×List BD×List ED}:F_conn_Conn_Feed_G1 p (3,x)=F_conn_Conn_Feed_G1_3 p x:=rfl
theorem feed0 {x:List Int×Int×Int×Int×List Int×List DD×List TD×List PD×List CnM×List CnC×List CnS×List BD×List ED}:F_conn_Conn_Feed_G1 p (0,x)=F_conn_Conn_Feed_G1_0 p x:=rfl
theorem feed2 {x:List Int×Int×Int×Int×List Int×List DD×List TD×List PD×List CnM×List CnC×List CnS×List BD×List ED}:F_conn_Conn_Feed_G1 p (2,x)=F_conn_Conn_Feed_G1_2 p x:=rfl
theorem feed1 {x:List Int×Int×Int×Int×List Int×List DD×List TD×List PD×List CnM×List CnC×List CnS×List BD×List ED}:F_conn_Conn_Feed_G1 p (1,x)=F_conn_Conn_Feed_G1_1 p x:=rfl
theorem feed_step {head' list' dec' par' blk' streams' enc' code' highest' m' send' room':Int} {begun':Bool} {peer':Int×Int×Int×Int×Int×Int} {q' cl':List Int} {stopped' feeding':Bool} {ev':List CnE}
  (hC:getI C p=some ((head,begun,list,dec,par,blk),streams,peer,enc,q,dead,code,stopped,highest,m,cl,send,room,ev,feeding)) (hN:F_frame_Parser_Next par P=some (k,fl,s,body,0,P'))
  (hR:F_conn_Conn_reads p k fl s body D T P' M C S B E=some (D',T',P'',M',C',S',B',E')) (hC':getI C' p=some ((head',begun',list',dec',par',blk'),streams',peer',enc',q',false,code',stopped',highest',m',cl',send',room',ev',feeding')) :
  F_conn_Conn_Feed_G1 p (3,(b,i1,i2,i3,b0,D,T,P,M,C,S,B,E))=some (.inr (3,(b,k,fl,s,body,D',T',P'',M',C',S',B',E'))):=by
 have hp:=getI_nn hC
 rw [feed3]
 unfold F_conn_Conn_Feed_G1_3 chk
 simp only [hp,cond_true,hC,Option.bind_some,hN]
 rw [show ((0:Int)==0)=true from rfl,cond_true,hR,Option.bind_some]
 simp only [hC',Option.bind_some,Bool.not_false,cond_true]
theorem feed_short (hC:getI C p=some ((head,begun,list,dec,par,blk),streams,peer,enc,q,dead,code,stopped,highest,m,cl,send,room,ev,feeding)) (hN:F_frame_Parser_Next par P=some (k,fl,s,body,4,P')) :
  F_conn_Conn_Feed_G1 p (3,(b,i1,i2,i3,b0,D,T,P,M,C,S,B,E))=some (.inr (2,(b,k,fl,s,body,D,T,P',M,C,S,B,E))):=by
 have hp:=getI_nn hC
 rw [feed3]
 unfold F_conn_Conn_Feed_G1_3 chk
 simp only [hp,cond_true,hC,Option.bind_some,hN]
 rfl
theorem feed_end (hC:getI C p=some ((head,begun,list,dec,par,blk),streams,peer,enc,q,dead,code,stopped,highest,m,cl,send,room,ev,feeding)) :
  F_conn_Conn_Feed_G1 p (2,(b,i1,i2,i3,b0,D,T,P,M,C,S,B,E))=some (.inl (ev,D,T,P,M,C.set p.toNat ((head,begun,list,dec,par,blk),streams,peer,enc,q,dead,code,stopped,highest,m,cl,send,room,[],false),S,B,E)):=by
 have hp:=getI_nn hC
 rw [feed2]
 unfold F_conn_Conn_Feed_G1_2 chk
 simp only [hp,cond_true,hC,Option.bind_some,getI_set hC,set_two]
theorem feed_bytes (hC:getI C p=some ((head,begun,list,dec,par,blk),streams,peer,enc,q,dead,code,stopped,highest,m,cl,send,room,ev,feeding)) (hF:F_frame_Parser_Feed par b P=some P') :
  F_conn_Conn_Feed_G1 p (0,(b,i1,i2,i3,b0,D,T,P,M,C,S,B,E))=F_conn_Conn_Feed_G1 p (3,(b,i1,i2,i3,b0,D,T,P',M,C,S,B,E)):=by
 have hp:=getI_nn hC
 rw [feed0,feed3]
 unfold F_conn_Conn_Feed_G1_0 F_conn_Conn_Feed_G1_3 chk
 simp only [hp,cond_true,hC,Option.bind_some,hF]
theorem loop_swap {S R:Type} {f:S->Option (R⊕S)} {x y:S} {r:R} (h:f x=f y) (k:loopC f y=some r):loopC f x=some r:=by
 obtain ⟨n,hn⟩:=iter_of_loop' k
 refine loop_of_iter (n:=n) ?_
 cases n with
 | zero=>cases hn
 | succ n=>unfold iterC at hn ⊢;rw [h];exact hn
theorem cfeed_at {l:List Int} {z:List CnE×List DD×List TD×List PD×List CnM×List CnC×List CnS×List BD×List ED} (hC:getI C p=some ((24,begun,list,dec,par,blk),streams,peer,enc,q,false,code,stopped,highest,m,cl,send,room,ev,feeding)) (hF:F_frame_Parser_Feed par l P=some P')
  (hz:loopC (F_conn_Conn_Feed_G1 p) (3,(l,0,0,0,[],D,T,P',M,C.set p.toNat ((24,begun,list,dec,par,blk),streams,peer,enc,q,false,code,stopped,highest,m,cl,send,room,[],true),S,B,E))=some z) :
  F_conn_Conn_Feed p l D T P M C S B E=some z:=by
 have hp:=getI_nn hC
 have hC2:=getI_set (x:=(((24:Int),begun,list,dec,par,blk),streams,peer,enc,q,false,code,stopped,highest,m,cl,send,room,([]:List CnE),true)) hC
 refine Eq.trans ?_ (loop_swap (feed_bytes hC2 hF) hz)
 unfold F_conn_Conn_Feed
 refine join_inr ?_
 unfold chk
 simp only [hp,cond_true,hC,Option.bind_some,cond_false,getI_set hC,set_two]
 cases hl:((l.length:Int)==0)
 ·rw [cond_false];rfl
 ·rw [cond_true]
theorem pre_step {rest:List Int} {j:Nat} {x:Int} (hj:preL[j]? = some x) (hC:getI C p=some (((j:Int),begun,list,dec,par,blk),streams,peer,enc,q,dead,code,stopped,highest,m,cl,send,room,ev,feeding)) (hr:rest.length<=1000000000) :
  F_conn_Conn_Feed_G1 p (1,(x::rest,i1,i2,i3,b0,D,T,P,M,C,S,B,E))=some (.inr (1,(rest,i1,i2,i3,b0,D,T,P,M,C.set p.toNat ((((j+1:Nat):Int),begun,list,dec,par,blk),streams,peer,enc,q,dead,code,stopped,highest,m,cl,send,room,ev,feeding),S,B,E))):=by
 have hp:=getI_nn hC
 have hj24:j < 24:=by
  have:=(List.getElem?_eq_some_iff.1 hj).1
  exact this
 rw [feed1]
 unfold F_conn_Conn_Feed_G1_1 chk
 have h0:(((x::rest).length:Int)==0)=false:=beq_eq_false_iff_ne.2 (by simp;omega)
 have h24:((j:Int)==24)=false:=beq_eq_false_iff_ne.2 (by omega)
 have hx:getI ([80,82,73,32,42,32,72,84,84,80,47,50,46,48,13,10,13,10,83,77,13,10,13,10]:List Int) (j:Int)=some x:=by
  unfold getI
  rw [decide_eq_true (Int.natCast_nonneg j),cond_true,Int.toNat_natCast]
  exact hj
 have hc:cutI (x::rest) 1 ((x::rest).length:Int)=some rest:=cutI_end [x] rest rfl rfl
 have hne:(x != x)=false:=by simp
 simp only [h0,cond_false,hp,cond_true,hC,Option.bind_some,h24,getI_zero,hx,hne,hc]
 rw [wB64 (x:=(j:Int)+1) (by omega) (by omega)]
 rfl
theorem pre_loop {rest:List Int} {z:List CnE×List DD×List TD×List PD×List CnM×List CnC×List CnS×List BD×List ED} (hr:rest.length<=900000000):∀ (n j:Nat) (C:List CnC),j+n=24->getI C p=some (((j:Int),begun,list,dec,par,blk),streams,peer,enc,q,dead,code,stopped,highest,m,cl,send,room,ev,feeding) ->
  loopC (F_conn_Conn_Feed_G1 p) (0,(rest,i1,i2,i3,b0,D,T,P,M,C.set p.toNat ((24,begun,list,dec,par,blk),streams,peer,enc,q,dead,code,stopped,highest,m,cl,send,room,ev,feeding),S,B,E))=some z ->
  loopC (F_conn_Conn_Feed_G1 p) (1,(preL.drop j++rest,i1,i2,i3,b0,D,T,P,M,C,S,B,E))=some z
 | 0,j,C,hj,hC,hz=>by
  have hj:j=24:=by omega
  subst hj
  have hp:=getI_nn hC
  have e:C.set p.toNat (((24:Int),begun,list,dec,par,blk),streams,peer,enc,q,dead,code,stopped,highest,m,cl,send,room,ev,feeding)=C:=set_same hC
  rw [e] at hz
  rw [show preL.drop 24=[] from rfl,List.nil_append]
  refine loop_inr ?_ hz
  rw [feed1]
  unfold F_conn_Conn_Feed_G1_1 chk
  cases hl:((rest.length:Int)==0)
  ·simp only [cond_false,hl,hp,cond_true,hC,Option.bind_some]
   rfl
  ·simp only [hl,cond_true]
 | n+1,j,C,hj,hC,hz=>by
  have hjl:j < preL.length:=by show j < 24;omega
  rw [List.drop_eq_getElem_cons hjl,List.cons_append]
  refine loop_inr (pre_step (List.getElem?_eq_getElem hjl) hC (by rw [List.length_append,List.length_drop];show 24 - (j+1)+rest.length<=_;omega)) ?_
  exact pre_loop hr n (j+1) _ (by omega) (getI_set hC) (by rw [set_two];exact hz)
end
theorem read6 (fl s:Int) (l:List Int):F_part_Read 6 fl s l=F_part_whole 6 fl s l:=eta12 _
theorem read_ping {a:Bool} {l:List Int} (hl:l.length=8):F_part_Read 6 (cond a 1 0) 0 l=some (l,0,0,0,0,[],false,a,false,false,false,0):=by
 have ha:decide (bits .and .i64 (cond a 1 0) 1 > 0)=a:=by cases a <;> decide +kernel
 rw [read6]
 unfold F_part_whole
 rw [show ((0:Int) != 0)=false from rfl,cond_false,decide_eq_false (show ¬ (l.length:Int) < 8 by omega),cond_false,show ((6:Int)==6)=true from rfl,cond_true,decide_eq_false (show ¬ (l.length:Int) > 8 by omega),cond_false,cond_true,clone_eq (by omega),Option.bind_some,ha]
theorem pingB_8 {l:List Int} (hl:l.length=8):pingB l=l:=by
 unfold pingB
 rw [hl,Nat.sub_self,List.replicate_zero,List.append_nil,List.take_of_length_le (by omega)]
section
variable {p : Int} {M M' : List CnM} {C C' : List CnC} {S S' : List CnS} {P P' P'' : List PD} {D D' : List DD} {T T' : List TD} {B B' : List BD} {E E' : List ED}
variable {head list dec par blk streams enc code highest m send room : Int} {begun : Bool} {peer : Int × Int × Int × Int × Int × Int} {q cl : List Int} {dead stopped feeding : Bool} {ev : List CnE}
theorem cfeed_first {rest:List Int} {z:List CnE×List DD×List TD×List PD×List CnM×List CnC×List CnS×List BD×List ED} (hC:getI C p=some ((0,begun,list,dec,par,blk),streams,peer,enc,q,false,code,stopped,highest,m,cl,send,room,ev,feeding)) (hr:rest.length<=900000000) (hF:F_frame_Parser_Feed par rest P=some P')
  (hz:loopC (F_conn_Conn_Feed_G1 p) (3,(rest,0,0,0,[],D,T,P',M,C.set p.toNat ((24,begun,list,dec,par,blk),streams,peer,enc,q,false,code,stopped,highest,m,cl,send,room,[],true),S,B,E))=some z) :
  F_conn_Conn_Feed p (preL++rest) D T P M C S B E=some z:=by
 have hp:=getI_nn hC
 have hC1:=getI_set (x:=(((1:Int),begun,list,dec,par,blk),streams,peer,enc,q,false,code,stopped,highest,m,cl,send,room,([]:List CnE),true)) hC
 have hC24:=getI_set (x:=(((24:Int),begun,list,dec,par,blk),streams,peer,enc,q,false,code,stopped,highest,m,cl,send,room,([]:List CnE),true)) hC
 have h1:=pre_loop (i1:=0) (i2:=0) (i3:=0) (b0:=[]) (D:=D) (T:=T) (P:=P) (M:=M) (S:=S) (B:=B) (E:=E) (z:=z) hr 23 1 _ (by omega) hC1 (by rw [set_two];exact loop_swap (feed_bytes hC24 hF) hz)
 refine Eq.trans ?_ h1
 unfold F_conn_Conn_Feed
 refine join_inr ?_
 unfold chk
 have h0:(((preL++rest).length:Int)==0)=false:=beq_eq_false_iff_ne.2 (by simp;omega)
 have h24:((0:Int)==24)=false:=rfl
 have hx:getI ([80,82,73,32,42,32,72,84,84,80,47,50,46,48,13,10,13,10,83,77,13,10,13,10]:List Int) 0=some 80:=rfl
 have hx2:getI (preL++rest) 0=some 80:=rfl
 have hc:cutI (preL++rest) 1 ((preL++rest).length:Int)=some (preL.drop 1++rest):=cutI_end [80] (preL.drop 1++rest) rfl rfl
 have hne:((80:Int) != 80)=false:=rfl
 simp only [hp,cond_true,hC,Option.bind_some,cond_false,getI_set hC,set_two,h0,h24,hx,hx2,hc,hne]
 rw [show IntKind.i64.wrap ((0:Int)+1)=1 from rfl]
theorem begun_on {k fl s:Int} {body:List Int} (hC:getI C p=some ((head,true,list,dec,par,-1),streams,peer,enc,q,dead,code,stopped,highest,m,cl,send,room,ev,feeding)) (hk:(k==9)=false):F_conn_Conn_misplaced p k fl s body C B=some (false,C):=by
 have hp:=getI_nn hC
 have e:C.set p.toNat ((head,true,list,dec,par,-1),streams,peer,enc,q,dead,code,stopped,highest,m,cl,send,room,ev,feeding)=C:=set_same hC
 unfold F_conn_Conn_misplaced chk
 simp only [hp,cond_true,hC,Option.bind_some,Bool.not_true,cond_false,e]
 rw [show eqI (-1:Int) (-1)=true from rfl,Bool.not_true,cond_false,hk]
theorem begun_first {fl s:Int} {body:List Int} (hC:getI C p=some ((head,false,list,dec,par,blk),streams,peer,enc,q,dead,code,stopped,highest,m,cl,send,room,ev,feeding)) (hf:decide (bits .and .i64 fl 1 > 0)=false) :
  F_conn_Conn_misplaced p 4 fl s body C B=some (false,C.set p.toNat ((head,true,list,dec,par,blk),streams,peer,enc,q,dead,code,stopped,highest,m,cl,send,room,ev,feeding)):=by
 have hp:=getI_nn hC
 unfold F_conn_Conn_misplaced chk
 simp only [hp,cond_true,hC,Option.bind_some,Bool.not_false]
 rw [show ((4:Int) != 4)=false from rfl,cond_false,hf]
theorem open_none (hC:getI C p=some ((head,begun,list,dec,par,blk),streams,peer,enc,q,dead,code,stopped,highest,m,cl,send,room,ev,feeding)) (hM:getI M m=some []):F_conn_Conn_Open p M C S=some []:=by
 unfold F_conn_Conn_Open
 rw [hC,Option.bind_some,hM,Option.bind_some]
theorem apply_nil (a b c d e f:Int):F_sets_Apply a b c d e f []=some (a,b,c,d,e,f,false,false,0):=by
 unfold F_sets_Apply
 have h:loopC (S:=Int×Int×Int×Int×Int×Int×Int×Int×Int×Int×Int×Int×Int×Bool×Bool×Int) (R:=(Int×Int×Int×Int×Int×Int×Bool×Bool×Int)⊕(Int×Int×Int×Int×Int×Int×Int×Int×Int×Int×Int×Int×Bool×Bool×Int)) (F_sets_Apply_L3 []) (0,a,b,c,d,e,f,0,0,0,0,0,0,false,false,0)=some (.inr (a,b,c,d,e,f,0,0,0,0,0,0,false,false,0)):=loop_inl rfl
 rw [join_inr h]
 rfl
theorem csettings {t z:Int} {l:Int} {w:Int} (hC:getI C p=some ((head,begun,list,dec,par,blk),streams,(4096,1,2147483647,65535,16384,2147483647),enc,q,false,code,stopped,highest,m,cl,send,room,ev,feeding)) (hM:getI M m=some []) (hE:getI E enc=some (t,w,4096)) (hT:getI T t=some ([],z,l)) (hq:q.length+9<=131072) :
  F_conn_Conn_settings p [] 0 0 0 0 [] false false false T P M C S E=some (T.set t.toNat ([],z,4096),P,C.set p.toNat ((head,begun,list,dec,par,blk),streams,(4096,1,2147483647,65535,16384,2147483647),enc,q++fb 4 1 0 [],false,code,stopped,highest,m,cl,send,room,ev,feeding),S,E):=by
 have hp:=getI_nn hC
 have he:=getI_nn hE
 have hCe:=set_same hC
 have hEe:=set_same hE
 have hlay:F_conn_Conn_lays p 4 1 0 [] P C=some (P,C.set p.toNat ((head,begun,list,dec,par,blk),streams,(4096,1,2147483647,65535,16384,2147483647),enc,q++fb 4 1 0 [],false,code,stopped,highest,m,cl,send,room,ev,feeding)):=
  lays_at hC ⟨by decide,by decide,by decide,by simp⟩ (by simpa using hq)
 have hpeer:F_pack_Enc_Peer enc 4096 T E=some (T.set t.toNat ([],z,4096),E):=by
  unfold F_pack_Enc_Peer chk
  simp only [he,cond_true,hE,Option.bind_some]
  rw [show minI (maxI 4096 0) 4096=4096 from rfl,limit_nil (by decide) (by decide) hT,Option.bind_some]
  dsimp only
  rw [show minI 4096 4096=4096 from rfl,hEe]
 unfold F_conn_Conn_settings
 rw [cond_false]
 unfold chk
 simp only [hp,cond_true,hC,Option.bind_some,apply_nil,cond_false,open_none hC hM]
 have hl:loopC (F_conn_Conn_settings_L9 p []) (([]:List Int),0,4096,1,2147483647,65535,16384,2147483647,T,P,M,C,S,E)=some (.inr (4096,1,2147483647,65535,16384,2147483647,T,P,M,C,S,E)):=loop_inl rfl
 refine (join_inr hl).trans ?_
 unfold F_conn_Conn_settings_J7 chk
 simp only [hp,cond_true,hC,Option.bind_some,hCe,hpeer,psets_nil,hlay]
theorem creads_settings {t z l w:Int} (hC:getI C p=some ((head,false,list,dec,par,blk),streams,(4096,1,2147483647,65535,16384,2147483647),enc,q,false,code,stopped,highest,m,cl,send,room,ev,feeding)) (hM:getI M m=some []) (hE:getI E enc=some (t,w,4096)) (hT:getI T t=some ([],z,l)) (hq:q.length+9<=131072) :
  F_conn_Conn_reads p 4 0 0 [] D T P M C S B E=some (D,T.set t.toNat ([],z,4096),P,M,C.set p.toNat ((head,true,list,dec,par,blk),streams,(4096,1,2147483647,65535,16384,2147483647),enc,q++fb 4 1 0 [],false,code,stopped,highest,m,cl,send,room,ev,feeding),S,B,E):=by
 have hr:F_part_Read 4 0 0 []=some ([],0,0,0,0,[],false,false,false,false,false,0):=read_settings false
 have hC2:=getI_set (x:=((head,true,list,dec,par,blk),streams,((4096:Int),(1:Int),(2147483647:Int),(65535:Int),(16384:Int),(2147483647:Int)),enc,q,false,code,stopped,highest,m,cl,send,room,ev,feeding)) hC
 unfold F_conn_Conn_reads
 rw [begun_first hC (by decide +kernel),Option.bind_some]
 dsimp only
 rw [cond_false,hr,Option.bind_some]
 dsimp only
 rw [cond_false,cond_false,cond_false,show ((4:Int)==0)=false from rfl,cond_false,show ((4:Int)==1)=false from rfl,cond_false,show ((4:Int)==9)=false from rfl,cond_false,show ((4:Int)==3)=false from rfl,cond_false,show ((4:Int)==4)=true from rfl,cond_true,csettings hC2 hM hE hT hq,Option.bind_some,set_two]
theorem creads_ping {l:List Int} (hC:getI C p=some ((head,true,list,dec,par,-1),streams,peer,enc,q,false,code,stopped,highest,m,cl,send,room,ev,feeding)) (hl:l.length=8) (hq:q.length+17<=131072) :
  F_conn_Conn_reads p 6 0 0 l D T P M C S B E=some (D,T,P,M,C.set p.toNat ((head,true,list,dec,par,-1),streams,peer,enc,q++fb 6 1 0 l,false,code,stopped,highest,m,cl,send,room,ev,feeding),S,B,E):=by
 have hr:F_part_Read 6 0 0 l=some (l,0,0,0,0,[],false,false,false,false,false,0):=read_ping (a:=false) hl
 have hpi:F_part_Ping l true=some (6,1,0,l):=by
  unfold F_part_Ping pingF
  rw [pingB_8 hl];rfl
 unfold F_conn_Conn_reads
 rw [begun_on hC rfl,Option.bind_some]
 dsimp only
 rw [cond_false,hr,Option.bind_some]
 dsimp only
 rw [cond_false,cond_false,cond_false,show ((6:Int)==0)=false from rfl,cond_false,show ((6:Int)==1)=false from rfl,cond_false,show ((6:Int)==9)=false from rfl,cond_false,show ((6:Int)==3)=false from rfl,cond_false,show ((6:Int)==4)=false from rfl,cond_false,show ((6:Int)==6)=true from rfl,cond_true,Bool.not_false,cond_true,hpi,Option.bind_some]
 dsimp only
 rw [lays_at hC ⟨by decide,by decide,by decide,by omega⟩ (by omega),Option.bind_some]
end
theorem hello_eq:F_wlvlaw23_hello=some (preL++fb 4 0 0 []):=by
 have hs:F_wlvref10_Settings [] false=some (4,0,0,[]):=settings_eq false
 have hp:F_wlvref10_Put 4 0 0 []=some (fb 4 0 0 [],0):=put_eq ⟨by decide,by decide,by decide,by simp⟩
 unfold F_wlvlaw23_hello
 rw [hs,Option.bind_some,hp,Option.bind_some]
 unfold chk
 rw [show (Nat.ble (List.length ([80,82,73,32,42,32,72,84,84,80,47,50,46,48,13,10,13,10,83,77,13,10,13,10]:List Int)) (List.length ([80,82,73,32,42,32,72,84,84,80,47,50,46,48,13,10,13,10,83,77,13,10,13,10]:List Int))&&true)=true from rfl,cond_true,List.take_length]
 rw [show (Nat.blt 0 (fb 4 0 0 []).length&&decide ((([80,82,73,32,42,32,72,84,84,80,47,50,46,48,13,10,13,10,83,77,13,10,13,10]:List Int).length+(fb 4 0 0 []).length)*1<=140737488355328)&&decide (([80,82,73,32,42,32,72,84,84,80,47,50,46,48,13,10,13,10,83,77,13,10,13,10]:List Int).length+(fb 4 0 0 []).length<=maxLen))=true from by decide +kernel,cond_true]
theorem framed_eq {k fl s:Int} {body:List Int} (h:okFb k fl s body):F_wlvlaw23_framed k fl s body=some (fb k fl s body):=by
 unfold F_wlvlaw23_framed
 rw [put_eq h,Option.bind_some]
section
variable {p : Int} {M M' : List CnM} {C C' : List CnC} {S S' : List CnS} {P P' P'' : List PD} {D D' : List DD} {T T' : List TD} {B B' : List BD} {E E' : List ED}
variable {r : Int × Bool × Int × Int × Int × Int} {streams enc code highest m send room : Int} {peer : Int × Int × Int × Int × Int × Int} {q cl : List Int} {dead stopped feeding : Bool} {ev : List CnE}
theorem take_all {n:Int} (hC:getI C p=some (r,streams,peer,enc,q,dead,code,stopped,highest,m,cl,send,room,ev,feeding)) (hn:(q.length:Int)<=n) (hq:q.length<=100000000) :
  F_conn_Conn_Take p n C=some (q,C.set p.toNat (r,streams,peer,enc,[],dead,code,stopped,highest,m,cl,send,room,ev,feeding)):=by
 have hp:=getI_nn hC
 have hm:minI (maxI n 0) (q.length:Int)=(q.length:Int):=by
  unfold minI maxI
  rw [decide_eq_false (show ¬ (0:Int) > n by omega),cond_false]
  by_cases h:(q.length:Int) < n
  ·rw [decide_eq_true h,cond_true]
  ·rw [decide_eq_false h,cond_false];omega
 have hc1:cutI q 0 (q.length:Int)=some q:=by
  have:=cut_all q (by omega)
  rw [Int.sub_zero,wB64 (by omega) (by omega)] at this
  exact this
 have hc2:cutI q (q.length:Int) (q.length:Int)=some []:=by
  have:=cutI_end q [] (m:=(q.length:Int)) (n:=((q++[]).length:Int)) rfl rfl
  rw [List.append_nil] at this
  exact this
 have hk:∀ l:List Int,l.length<=100000000->F_slices_Clone_byte_byte l=some l:=fun l hl=>by
  unfold F_slices_Clone_byte_byte
  rw [Nat.ble_eq_true_of_le hl,cond_true]
 unfold F_conn_Conn_Take chk
 simp only [hp,cond_true,hC,Option.bind_some,hm,hc1,hc2,hk q hq,hk [] (by simp)]
theorem queue_at (hC:getI C p=some (r,streams,peer,enc,q,dead,code,stopped,highest,m,cl,send,room,ev,feeding)):F_conn_Conn_Queue p C=some (q.length:Int):=by
 have hp:=getI_nn hC
 unfold F_conn_Conn_Queue chk
 simp only [hp,cond_true,hC,Option.bind_some]
theorem dead_at (hC:getI C p=some (r,streams,peer,enc,q,dead,code,stopped,highest,m,cl,send,room,ev,feeding)):F_conn_Conn_Dead p C=some (dead,code):=by
 have hp:=getI_nn hC
 unfold F_conn_Conn_Dead chk
 simp only [hp,cond_true,hC,Option.bind_some]
end
def pg:List Int:=[1,2,0,0,0,0,0,0]
theorem okS0:okFb 4 0 0 []:=⟨by decide,by decide,by decide,by simp⟩
theorem okP0 {l:List Int} (h:l.length=8):okFb 6 0 0 l:=⟨by decide,by decide,by decide,by omega⟩
theorem hello_step {p:Int} {M:List CnM} {C:List CnC} {S:List CnS} {P:List PD} {D:List DD} {T:List TD} {B:List BD} {E:List ED} {b b0 rest:List Int} {i1 i2 i3 head list dec par blk streams enc code highest m send room t z l w:Int} {q cl:List Int} {stopped feeding:Bool} {ev:List CnE} {y:List CnE×List DD×List TD×List PD×List CnM×List CnC×List CnS×List BD×List ED}
  (hC:getI C p=some ((head,false,list,dec,par,blk),streams,(4096,1,2147483647,65535,16384,2147483647),enc,q,false,code,stopped,highest,m,cl,send,room,ev,feeding)) (hP:getI P par=some (16384,fb 4 0 0 []++rest)) (hM:getI M m=some []) (hE:getI E enc=some (t,w,4096)) (hT:getI T t=some ([],z,l)) (hq:q.length+9<=131072) (hr:rest.length<=1000000000)
  (hy:loopC (F_conn_Conn_Feed_G1 p) (3,(b,4,0,0,[],D,T.set t.toNat ([],z,4096),P.set par.toNat (16384,rest),M,C.set p.toNat ((head,true,list,dec,par,blk),streams,(4096,1,2147483647,65535,16384,2147483647),enc,q++fb 4 1 0 [],false,code,stopped,highest,m,cl,send,room,ev,feeding),S,B,E))=some y) :
  loopC (F_conn_Conn_Feed_G1 p) (3,(b,i1,i2,i3,b0,D,T,P,M,C,S,B,E))=some y:=
 loop_inr (feed_step hC (next_fb (getI_nn hP) okS0 hP hr) (creads_settings hC hM hE hT hq) (getI_set hC)) hy
theorem ping_step {p:Int} {M:List CnM} {C:List CnC} {S:List CnS} {P:List PD} {D:List DD} {T:List TD} {B:List BD} {E:List ED} {b b0 rest x:List Int} {i1 i2 i3 head list dec par streams enc code highest m send room:Int} {peer:Int×Int×Int×Int×Int×Int} {q cl:List Int} {stopped feeding:Bool} {ev:List CnE} {y:List CnE×List DD×List TD×List PD×List CnM×List CnC×List CnS×List BD×List ED}
  (hC:getI C p=some ((head,true,list,dec,par,-1),streams,peer,enc,q,false,code,stopped,highest,m,cl,send,room,ev,feeding)) (hx:x.length=8) (hP:getI P par=some (16384,fb 6 0 0 x++rest)) (hq:q.length+17<=131072) (hr:rest.length<=1000000000)
  (hy:loopC (F_conn_Conn_Feed_G1 p) (3,(b,6,0,0,x,D,T,P.set par.toNat (16384,rest),M,C.set p.toNat ((head,true,list,dec,par,-1),streams,peer,enc,q++fb 6 1 0 x,false,code,stopped,highest,m,cl,send,room,ev,feeding),S,B,E))=some y) :
  loopC (F_conn_Conn_Feed_G1 p) (3,(b,i1,i2,i3,b0,D,T,P,M,C,S,B,E))=some y:=
 loop_inr (feed_step hC (next_fb (getI_nn hP) (okP0 hx) hP hr) (creads_ping hC hx hq) (getI_set hC)) hy
theorem short_end {p:Int} {M:List CnM} {C:List CnC} {S:List CnS} {P:List PD} {D:List DD} {T:List TD} {B:List BD} {E:List ED} {b b0 X:List Int} {i1 i2 i3 head list dec par blk streams enc code highest m send room:Int} {begun:Bool} {peer:Int×Int×Int×Int×Int×Int} {q cl:List Int} {dead stopped feeding:Bool} {ev:List CnE}
  (hC:getI C p=some ((head,begun,list,dec,par,blk),streams,peer,enc,q,dead,code,stopped,highest,m,cl,send,room,ev,feeding)) (hP:getI P par=some (16384,X)) (hX:X.length < 9) :
  loopC (F_conn_Conn_Feed_G1 p) (3,(b,i1,i2,i3,b0,D,T,P,M,C,S,B,E))=some (ev,D,T,P,M,C.set p.toNat ((head,begun,list,dec,par,blk),streams,peer,enc,q,dead,code,stopped,highest,m,cl,send,room,[],false),S,B,E):=
 loop_inr (feed_short hC (next_short (getI_nn hP) hP hX)) (loop_inl (feed_end hC))
abbrev ch (n list:Int) (T:List TD) (D:List DD) (P:List PD) (M:List CnM) (E:List ED) (q:List Int):CnC:=((24,true,list,(D.length:Int),(P.length:Int),-1),n,(4096,1,2147483647,65535,16384,2147483647),(E.length:Int),q,false,0,false,0,(M.length:Int),[],65535,65535,[],false)
theorem cfirst_any (D:List DD) (T:List TD) (P:List PD) (M:List CnM) (C:List CnC) (S:List CnS) (B:List BD) (E:List ED):F_wlvlaw23_first D T P M C S B E =
  some (true,D++[((T.length:Int)+1,false)],T++[([],(0,4096)),([],(0,4096))],P++[(16384,[])],M++[[]],C++[ch 3 1000 T D P M E []],S,B,E++[((T.length:Int),4096,4096)]):=by
 have hpi:F_wlvref10_Ping [1,2] false=some (6,0,0,pg):=rfl
 have hput:F_wlvref10_Put 6 0 0 pg=some (fb 6 0 0 pg,0):=put_eq (okP0 rfl)
 have h17:(fb 6 0 0 pg).length=17:=by rw [fb_len];rfl
 have h9:(fb 4 0 0 []).length=9:=by rw [fb_len];rfl
 unfold F_wlvlaw23_first
 rw [cnew_at,Option.bind_some]
 dsimp only
 rw [show eqI (C.length:Int) (-1)=false from beq_eq_false_iff_ne.2 (by omega),cond_false,queue_at getI_new,Option.bind_some]
 have h21:(fb 4 0 0 (setsB 3 1000)).length=21:=by rw [fb_len,setsB_len]
 rw [h21,show (((21:Nat):Int) != 21)=false from rfl,cond_false,take_all getI_new (by rw [h21];decide) (by rw [h21];decide),Option.bind_some,hpi,Option.bind_some]
 dsimp only
 rw [hput,Option.bind_some,hello_eq,Option.bind_some,set_new]
 dsimp only
 unfold chk
 rw [ckB (by rw [List.length_append,h9,h17];decide),cond_true,List.append_assoc]
 have hPn:getI (P++[((16384:Int),([]:List Int))]) (P.length:Int)=some (16384,[]):=getI_new
 have hfeed:=feed_at (Y:=fb 4 0 0 []++fb 6 0 0 pg) (getI_nn hPn) hPn (by rw [List.length_append,h9,h17];decide)
 rw [set_new,List.nil_append] at hfeed
 have hTn:getI (T++[(([]:List Fld),((0:Int),(4096:Int))),([],(0,4096))]) (T.length:Int)=some ([],0,4096):=getI_new0
 have hTs:(T++[(([]:List Fld),((0:Int),(4096:Int))),([],(0,4096))]).set (T.length:Int).toNat ([],(0,4096))=T++[([],(0,4096)),([],(0,4096))]:=set_same hTn
 rw [cfeed_first (z:=([],D++[((T.length:Int)+1,false)],T++[([],(0,4096)),([],(0,4096))],P++[(16384,[])],M++[[]],C++[ch 3 1000 T D P M E (([]++fb 4 1 0 [])++fb 6 1 0 pg)],S,B,E++[((T.length:Int),4096,4096)])) getI_new (by rw [List.length_append,h9,h17];decide) hfeed ?_,Option.bind_some]
 ·dsimp only
  have h26:(([]++fb 4 1 0 [])++fb 6 1 0 pg).length=26:=by rw [List.length_append,List.length_append,fb_len,fb_len];rfl
  rw [take_all getI_new (by rw [h26];decide) (by rw [h26];decide),Option.bind_some,set_new]
  dsimp only
  rw [dead_at getI_new,Option.bind_some,h26]
  rfl
 ·rw [set_new]
  refine hello_step (t:=(T.length:Int)) (z:=0) (l:=4096) (w:=4096) getI_new getI_new getI_new getI_new hTn (by simp) (by rw [h17];decide) ?_
  rw [hTs,set_new,set_new]
  refine ping_step (rest:=[]) getI_new (x:=pg) rfl (by rw [List.append_nil];exact getI_new) (by rw [List.length_append,fb_len];decide) (by simp) ?_
  rw [set_new,set_new]
  refine (short_end getI_new getI_new (by simp)).trans ?_
  rw [set_new]
section
variable {p : Int} {M M' : List CnM} {C C' : List CnC} {S S' : List CnS} {P P' P'' : List PD} {D D' : List DD} {T T' : List TD} {B B' : List BD} {E E' : List ED}
variable {head list dec par blk streams enc code highest m send room : Int} {begun : Bool} {peer : Int × Int × Int × Int × Int × Int} {q cl : List Int} {dead stopped feeding : Bool} {ev : List CnE}
theorem tells_at {k s c:Int} {fs:List Fld} {d:List Int} {l e o:Bool} (hC:getI C p=some ((head,begun,list,dec,par,blk),streams,peer,enc,q,dead,code,stopped,highest,m,cl,send,room,ev,true)) (he:ev.length<=1000000) :
  F_conn_Conn_tells p k s c fs d l e o C=some (C.set p.toNat ((head,begun,list,dec,par,blk),streams,peer,enc,q,dead,code,stopped,highest,m,cl,send,room,ev++[(k,s,c,fs,d,l,e,o)],true)):=by
 have hp:=getI_nn hC
 have hpp:eqI p p=true:=beq_self_eq_true p
 have hm:maxLen=9223372036854775807:=rfl
 have hck:(decide ((ev.length+([(k,s,c,fs,d,l,e,o)]:List CnE).length)*80<=140737488355328)&&decide (ev.length+([(k,s,c,fs,d,l,e,o)]:List CnE).length<=maxLen))=true:=by
  rw [Bool.and_eq_true,decide_eq_true_eq,decide_eq_true_eq]
  simp only [List.length_cons,List.length_nil]
  omega
 unfold F_conn_Conn_tells chk
 simp only [hp,cond_true,hC,Option.bind_some,hpp,hck]
end
section
variable {p : Int} {M M' : List CnM} {C C' : List CnC} {S S' : List CnS} {P P' P'' : List PD} {D D' : List DD} {T T' : List TD} {B B' : List BD} {E E' : List ED}
variable {head list dec par blk streams enc code highest m send room : Int} {begun : Bool} {peer : Int × Int × Int × Int × Int × Int} {q cl : List Int} {dead stopped feeding : Bool} {ev : List CnE}
end
theorem chk_t {R:Type} {b:Bool} {r:Option R} (h:b=true):chk b r=r:=by rw [h];rfl
def methodF:Fld:=([58,109,101,116,104,111,100],[71,69,84],false)
theorem get2:F_pint_Get [130] 7=some (2,1,0):=by decide +kernel
theorem stat2:F_stat_Get 2=some ([58,109,101,116,104,111,100],[71,69,84],false,true):=by decide +kernel
theorem size2:F_stat_Size [58,109,101,116,104,111,100] [71,69,84] false=some 42:=by decide +kernel
theorem at2 {l:List Int} {t i3 i4:Int} {l5:List Fld} {T:List TD}:F_unpack_block_at l t i3 i4 l5 2 T=some ([58,109,101,116,104,111,100],[71,69,84],false,true,l,t,i3,i4,l5):=by
 unfold F_unpack_block_at
 rw [show decide ((2:Int)<=61)=true from rfl,cond_true,stat2]
 rfl
theorem keep2 {l:List Int} {t:Int}:F_unpack_block_keep l t 1000 0 [] [58,109,101,116,104,111,100] [71,69,84] false=some (l,t,1000,42,[methodF]):=by
 unfold F_unpack_block_keep
 rw [size2,Option.bind_some,show decide (IntKind.i64.wrap (0+42)<=1000)=true from by decide +kernel,cond_true,chk_t (by decide +kernel)]
 rfl
set_option maxRecDepth 20000 in
theorem read82 {t:Int} {T:List TD}:F_unpack_block_read [130] t 1000 0 [] T=some (true,[],t,1000,42,[methodF],T):=by
 unfold F_unpack_block_read
 refine (join_inr (s:=(1,(false,0,false,[],[],false,[130],t,1000,0,[],T))) rfl).trans
  (loop_inr (s':=(4,(true,0,false,[58,109,101,116,104,111,100],[71,69,84],false,[],t,1000,0,[],T))) ?_
   (loop_inr (s':=(0,(true,0,true,[58,109,101,116,104,111,100],[71,69,84],false,[],t,1000,42,[methodF],T))) ?_ (loop_inl rfl)))
 ·show F_unpack_block_read_G1_1 (false,0,false,[],[],false,[130],t,1000,0,[],T)=_
  unfold F_unpack_block_read_G1_1 F_unpack_block_number
  dsimp only
  rw [get2,Option.bind_some]
  dsimp only
  rw [show ((0:Int) != 0)=false from rfl,cond_false,show cutI ([130]:List Int) 1 ((([130]:List Int).length:Nat):Int)=some [] from rfl,Option.bind_some,Option.bind_some]
  dsimp only
  rw [cond_true]
  rw [at2,Option.bind_some]
 ·unfold F_unpack_block_read_G1
  rw [show hasN [0] 4=false from rfl,cond_false,show hasN [1] 4=false from rfl,cond_false,show hasN [2] 4=false from rfl,cond_false,show hasN [3] 4=false from rfl,cond_false,show hasN [4] 4=true from rfl,cond_true]
  unfold F_unpack_block_read_G1_4
  dsimp only
  rw [Bool.not_true,cond_false,keep2,Option.bind_some]
theorem decode82 {D:List DD} {T:List TD} {d t:Int} (hD:getI D d=some (t,false)):F_unpack_Dec_Decode d [130] 1000 D T=some ([methodF],0,D,T):=by
 have hd:=getI_nn hD
 unfold F_unpack_Dec_Decode
 rw [chk_t hd,hD,Option.bind_some]
 dsimp only
 rw [cond_false,show F_slices_Clone_byte_byte [130]=some [130] from rfl,Option.bind_some,chk_t hd,Option.bind_some,read82,Option.bind_some]
 rfl
def isOp (n:Int):Bool:=((n==1)||(n==2))||(n==3)
section
variable {p : Int} {M M' : List CnM} {C C' : List CnC} {S S' : List CnS} {P P' P'' : List PD} {D D' : List DD} {T T' : List TD} {B B' : List BD} {E E' : List ED}
variable {r : Int × Bool × Int × Int × Int × Int} {streams enc code highest m send room : Int} {peer : Int × Int × Int × Int × Int × Int} {q cl : List Int} {dead stopped feeding : Bool} {ev : List CnE}
theorem sopen_at {j st a b:Int} (hS:getI S j=some (st,a,b)):F_conn_stream_open j S=some (isOp st):=by
 have hj:=getI_nn hS
 unfold F_conn_stream_open chk isOp
 simp only [hj,cond_true,hS,Option.bind_some]
 cases h1:(st==1) <;> cases h2:(st==2) <;> cases h3:(st==3) <;> rfl
theorem state_at {n j st a b:Int} {mm:CnM} (hC:getI C p=some (r,streams,peer,enc,q,dead,code,stopped,highest,m,cl,send,room,ev,feeding)) (hM:getI M m=some mm) (h1:1<=n) (h2:(Int.tmod n 2==0)=false) (h3:n<=highest) (hj:getZ (mapGet mm n) (-1:Int)=j) (hS:getI S j=some (st,a,b)):F_conn_Conn_State p n M C S=some st:=by
 have hp:=getI_nn hC
 have hjn:=getI_nn hS
 have hj1:eqI j (-1)=false:=by
  have:0<=j:=of_decide_eq_true hjn
  exact beq_eq_false_iff_ne.2 (by omega)
 unfold F_conn_Conn_State chk
 simp only [hp,cond_true,hC,Option.bind_some,hM]
 rw [decide_eq_false (show ¬ n < 1 by omega),h2,show (false||false)=false from rfl,cond_false,decide_eq_false (show ¬ n > highest by omega),cond_false,hj,hj1,Bool.not_false,cond_true,hjn,cond_true,hS,Option.bind_some]
theorem turns_keep {n j st st' a b:Int} {mm:CnM} (hC:getI C p=some (r,streams,peer,enc,q,dead,code,stopped,highest,m,cl,send,room,ev,feeding)) (hM:getI M m=some mm) (hj:getZ (mapGet mm n) (-1:Int)=j) (hS:getI S j=some (st,a,b)) (ho:isOp st=false \/ isOp st'=true) :
  F_conn_Conn_turns p n st' M C S=some (M,C,S.set j.toNat (st',a,b)):=by
 have hp:=getI_nn hC
 have hjn:=getI_nn hS
 have hj1:eqI j (-1)=false:=by
  have:0<=j:=of_decide_eq_true hjn
  exact beq_eq_false_iff_ne.2 (by omega)
 unfold F_conn_Conn_turns chk
 simp only [hp,cond_true,hC,Option.bind_some,hM,hj,hj1,cond_false,sopen_at hS,hjn,hS,sopen_at (getI_set (x:=(st',a,b)) hS)]
 rcases ho with h | h
 ·rw [h,Bool.not_false,cond_true]
 ·rw [h]
  cases isOp st <;> rfl
theorem begins_open {n:Int} {mm:CnM} (hC:getI C p=some (r,streams,peer,enc,q,dead,code,stopped,highest,m,cl,send,room,ev,feeding)) (hM:getI M m=some mm) (hg:getZ (mapGet (mapSet mm n (S.length:Int)) n) (-1:Int)=(S.length:Int)) :
  F_conn_Conn_begins p n 1 M C S=some (M.set m.toNat (mapSet mm n (S.length:Int)),C,S++[(1,peer.2.2.2.1,65535)]):=by
 have hp:=getI_nn hC
 have ht:=turns_keep (n:=n) (st':=1) (S:=S++[(1,peer.2.2.2.1,65535)]) hC (getI_set (x:=mapSet mm n (S.length:Int)) hM) hg getI_new (.inr rfl)
 rw [set_new] at ht
 unfold F_conn_Conn_begins chk
 simp only [hp,cond_true,hC,Option.bind_some,hM,ht]
end
def upB (n:Int):List Int:=beL (bits .and .i64 n 2147483647) 4
theorem upB_len (n:Int):(upB n).length=4:=beL_len _ 4
theorem pupdate (s n:Int):F_part_Update s n=some (8,0,s,upB n):=by
 have h:F_part_bits (bits .and .i64 n 2147483647) 4=some (upB n):=bits_eq _ 4 (by omega)
 unfold F_part_Update
 rw [h,Option.bind_some]
theorem okU8 {s n:Int} (hs:0<=s /\ s<=2147483647):okFb 8 0 s (upB n):=⟨by decide,by decide,hs,by rw [upB_len];decide⟩
section
variable {p : Int} {M M' : List CnM} {C C' : List CnC} {S S' : List CnS} {P P' P'' : List PD} {D D' : List DD} {T T' : List TD} {B B' : List BD} {E E' : List ED}
variable {r : Int × Bool × Int × Int × Int × Int} {streams enc code highest m send room : Int} {peer : Int × Int × Int × Int × Int × Int} {q cl : List Int} {dead stopped feeding : Bool} {ev : List CnE}
theorem min_room {n room:Int} (h0:0<=room) (h1:room<=65535):IntKind.i64.wrap (65535 - room)=65535 - room:=wB64 (by omega) (by omega)
theorem gives_none {n:Int} (hC:getI C p=some (r,streams,peer,enc,q,dead,code,stopped,highest,m,cl,send,room,ev,feeding)) (h0:0<=room) (h1:room<=65535) (hn:n<=0 \/ room=65535):F_conn_Conn_gives p n P C=some (P,C):=by
 have hp:=getI_nn hC
 have hm:¬ minI n (65535 - room) > 0:=by
  unfold minI
  by_cases h:65535 - room < n
  ·rw [decide_eq_true h,cond_true];omega
  ·rw [decide_eq_false h,cond_false];omega
 unfold F_conn_Conn_gives chk
 simp only [hp,cond_true,hC,Option.bind_some,min_room (n:=n) h0 h1]
 rw [decide_eq_false hm,cond_false]
theorem gives_all {n:Int} (hC:getI C p=some (r,streams,peer,enc,q,false,code,stopped,highest,m,cl,send,room,ev,feeding)) (h0:0<=room) (hn:1<=n) (h1:room+n<=65535) (hq:q.length+13<=131072) :
  F_conn_Conn_gives p n P C=some (P,C.set p.toNat (r,streams,peer,enc,q++fb 8 0 0 (upB n),false,code,stopped,highest,m,cl,send,room+n,ev,feeding)):=by
 have hp:=getI_nn hC
 have hm:minI n (65535 - room)=n:=by
  unfold minI
  by_cases h:65535 - room < n
  ·omega
  ·rw [decide_eq_false h,cond_false]
 have hl:=lays_at (P:=P) (k:=8) (fl:=0) (s:=0) (body:=upB n) (getI_set (x:=(r,streams,peer,enc,q,false,code,stopped,highest,m,cl,send,room+n,ev,feeding)) hC) (okU8 ⟨by decide,by decide⟩) (by rw [upB_len];omega)
 rw [set_two] at hl
 unfold F_conn_Conn_gives chk
 simp only [hp,cond_true,hC,Option.bind_some,min_room (n:=n) h0 (show room<=65535 by omega),hm,pupdate,wB64 (x:=room+n) (by omega) (by omega),hl]
 rw [decide_eq_true (show n > 0 by omega),cond_true]
theorem givesTo_all {n s j a w:Int} {mm:CnM} (hC:getI C p=some (r,streams,peer,enc,q,false,code,stopped,highest,m,cl,send,room,ev,feeding)) (hM:getI M m=some mm) (hj:getZ (mapGet mm s) (-1:Int)=j) (hS:getI S j=some (1,a,w)) (hs:0<=s /\ s<=2147483647) (h0:0<=w) (hn:1<=n) (h1:w+n<=65535) (hq:q.length+13<=131072) :
  F_conn_Conn_givesTo p s n P M C S=some (P,C.set p.toNat (r,streams,peer,enc,q++fb 8 0 s (upB n),false,code,stopped,highest,m,cl,send,room,ev,feeding),S.set j.toNat (1,a,w+n)):=by
 have hp:=getI_nn hC
 have hjn:=getI_nn hS
 have hj1:eqI j (-1)=false:=by
  have:0<=j:=of_decide_eq_true hjn
  exact beq_eq_false_iff_ne.2 (by omega)
 have hm:minI n (65535 - w)=n:=by
  unfold minI
  by_cases h:65535 - w < n
  ·omega
  ·rw [decide_eq_false h,cond_false]
 have hl:=lays_at (P:=P) (k:=8) (fl:=0) (s:=s) (body:=upB n) hC (okU8 hs) (by rw [upB_len];omega)
 unfold F_conn_Conn_givesTo chk
 simp only [hp,cond_true,hC,Option.bind_some,hM,hj,hj1,cond_false,hjn,hS]
 rw [show ((1:Int) != 1)=false from rfl,cond_false]
 simp only [min_room (n:=n) h0 (show w<=65535 by omega),hm,pupdate,Option.bind_some,wB64 (x:=w+n) (by omega) (by omega),hl]
 rw [decide_eq_true (show n > 0 by omega),cond_true]
theorem givesTo_none {n s j a w:Int} {mm:CnM} (hC:getI C p=some (r,streams,peer,enc,q,dead,code,stopped,highest,m,cl,send,room,ev,feeding)) (hM:getI M m=some mm) (hj:getZ (mapGet mm s) (-1:Int)=j) (hS:getI S j=some (1,a,w)) (h0:0<=w) (h1:w<=65535) (hn:n<=0 \/ w=65535) :
  F_conn_Conn_givesTo p s n P M C S=some (P,C,S):=by
 have hp:=getI_nn hC
 have hjn:=getI_nn hS
 have hj1:eqI j (-1)=false:=by
  have:0<=j:=of_decide_eq_true hjn
  exact beq_eq_false_iff_ne.2 (by omega)
 have hm:¬ minI n (65535 - w) > 0:=by
  unfold minI
  by_cases h:65535 - w < n
  ·rw [decide_eq_true h,cond_true];omega
  ·rw [decide_eq_false h,cond_false];omega
 unfold F_conn_Conn_givesTo chk
 simp only [hp,cond_true,hC,Option.bind_some,hM,hj,hj1,cond_false,hjn,hS]
 rw [show ((1:Int) != 1)=false from rfl,cond_false]
 simp only [min_room (n:=n) h0 h1]
 rw [decide_eq_false hm,cond_false]
end
section
variable {p : Int} {M M' : List CnM} {C C' : List CnC} {S S' : List CnS} {P P' P'' : List PD} {D D' : List DD} {T T' : List TD} {B B' : List BD} {E E' : List ED}
variable {head list dec par blk streams enc code highest m send room : Int} {begun : Bool} {peer : Int × Int × Int × Int × Int × Int} {q cl : List Int} {dead stopped feeding : Bool} {ev : List CnE}
theorem recv_open:F_life_Recv 1 0 false=some (1,false,false,0):=by decide +kernel
theorem data_open {j a w:Int} {mm:CnM} {d:List Int} (hC:getI C p=some ((head,begun,list,dec,par,blk),streams,peer,enc,q,false,code,stopped,highest,m,cl,send,room,ev,true)) (hM:getI M m=some mm) (hh:1<=highest) (hj:getZ (mapGet mm 1) (-1:Int)=j) (hS:getI S j=some (1,a,w)) (hr:room<=65535) (hw:w<=65535) (h1:(d.length:Int)<=room) (h2:(d.length:Int)<=w) (he:ev.length<=1000000) :
  F_conn_Conn_data p 0 0 1 d d 0 0 0 0 [] false false false P M C S=some (P,M,C.set p.toNat ((head,begun,list,dec,par,blk),streams,peer,enc,q,false,code,stopped,highest,m,cl,send,room - (d.length:Int),ev++[(2,1,0,[],d,false,false,false)],true),S.set j.toNat (1,a,w - (d.length:Int))):=by
 have hp:=getI_nn hC
 have hjn:=getI_nn hS
 have hC1:=getI_set (x:=((head,begun,list,dec,par,blk),streams,peer,enc,q,false,code,stopped,highest,m,cl,send,room - (d.length:Int),ev,true)) hC
 have hst:=state_at (n:=1) hC1 hM (by decide) rfl hh hj hS
 have hS1:=getI_set (x:=((1:Int),a,w - (d.length:Int))) hS
 have hgi:F_conn_Conn_gives p 0 P (C.set p.toNat ((head,begun,list,dec,par,blk),streams,peer,enc,q,false,code,stopped,highest,m,cl,send,room - (d.length:Int),ev,true))=some (P,_):=gives_none hC1 (by omega) (by omega) (.inl (by omega))
 have hgt:=givesTo_none (P:=P) (n:=0) (s:=1) hC1 hM hj hS1 (by omega) (by omega) (.inl (by omega))
 have htu:=turns_keep (n:=1) (st':=1) hC1 hM hj hS1 (.inr rfl)
 rw [set_two] at htu
 have hte:=tells_at (k:=2) (s:=1) (c:=0) (fs:=[]) (d:=d) (l:=false) (e:=false) (o:=false) hC1 he
 rw [set_two] at hte
 unfold F_conn_Conn_data chk
 simp only [hp,cond_true,hC,Option.bind_some]
 rw [decide_eq_false (show ¬ (d.length:Int) > room by omega),cond_false,wB64 (x:=room - (d.length:Int)) (by omega) (by omega),hst,Option.bind_some,recv_open,Option.bind_some]
 simp only [Bool.not_false,hC1,Option.bind_some,hM,hj,hjn,cond_true,hS]
 rw [show (true&&((1:Int) != 5))=true from rfl,cond_true,decide_eq_false (show ¬ (d.length:Int) > w by omega),cond_false,cond_false,cond_false,show ((1:Int)==5)=false from rfl,cond_false]
 simp only [wB64 (x:=w - (d.length:Int)) (by omega) (by omega),hgi,Option.bind_some,hgt,htu,hte]
end
section
variable {p : Int} {M M' : List CnM} {C C' : List CnC} {S S' : List CnS} {P P' P'' : List PD} {D D' : List DD} {T T' : List TD} {B B' : List BD} {E E' : List ED}
variable {head list dec par blk streams enc code highest m send room : Int} {begun : Bool} {peer : Int × Int × Int × Int × Int × Int} {q cl : List Int} {dead stopped feeding : Bool} {ev : List CnE}
theorem creads_data {j a w:Int} {mm:CnM} {d:List Int} (hC:getI C p=some ((head,true,list,dec,par,-1),streams,peer,enc,q,false,code,stopped,highest,m,cl,send,room,ev,true)) (hM:getI M m=some mm) (hh:1<=highest) (hj:getZ (mapGet mm 1) (-1:Int)=j) (hS:getI S j=some (1,a,w)) (hr:room<=65535) (hw:w<=65535) (h1:(d.length:Int)<=room) (h2:(d.length:Int)<=w) (he:ev.length<=1000000) (hd:d.length<=16384) :
  F_conn_Conn_reads p 0 0 1 d D T P M C S B E=some (D,T,P,M,C.set p.toNat ((head,true,list,dec,par,-1),streams,peer,enc,q,false,code,stopped,highest,m,cl,send,room - (d.length:Int),ev++[(2,1,0,[],d,false,false,false)],true),S.set j.toNat (1,a,w - (d.length:Int)),B,E):=by
 have hrd:F_part_Read 0 0 1 d=some (d,0,0,0,0,[],false,false,false,false,false,0):=by
  rw [read0,bodied_data rfl (by decide +kernel) hd,show decide (bits .and .i64 0 1 > 0)=false from by decide +kernel]
 unfold F_conn_Conn_reads
 rw [begun_on hC rfl,Option.bind_some]
 dsimp only
 rw [cond_false,hrd,Option.bind_some]
 dsimp only
 rw [cond_false,cond_false,cond_false,show ((0:Int)==0)=true from rfl,cond_true,data_open hC hM hh hj hS hr hw h1 h2 he,Option.bind_some]
theorem recv_idle:F_life_Recv 0 1 false=some (1,false,false,0):=by decide +kernel
theorem creads_req {t:Int} (hC:getI C p=some ((head,true,1000,dec,par,-1),10,peer,enc,q,false,code,false,0,m,cl,send,room,ev,true)) (hM:getI M m=some []) (hD:getI D dec=some (t,false)) (he:ev.length<=1000000) :
  F_conn_Conn_reads p 1 4 1 [130] D T P M C S B E=some (D,T,P,M.set m.toNat [(1,(S.length:Int))],C.set p.toNat ((head,true,1000,dec,par,-1),10,peer,enc,q,false,code,false,1,m,cl,send,room,ev++[(1,1,0,[methodF],[],false,false,false)],true),S++[(1,peer.2.2.2.1,65535)],B++[(1,0,0,false,[130])],E):=by
 have hp:=getI_nn hC
 have hr:F_part_Read 1 4 1 [130]=some ([130],0,0,0,0,[],false,false,true,false,false,0):=by
  rw [read1,bodied_head rfl (by decide +kernel) (by decide +kernel) (by simp),show decide (bits .and .i64 4 1 > 0)=false from by decide +kernel,show decide (bits .and .i64 4 4 > 0)=true from by decide +kernel]
 have h1:=getI_set (x:=((head,true,(1000:Int),dec,par,(-1:Int)),(10:Int),peer,enc,q,false,code,false,(1:Int),m,cl,send,room,ev,true)) hC
 have h2:=getI_set (x:=((head,true,(1000:Int),dec,par,(B.length:Int)),(10:Int),peer,enc,q,false,code,false,(1:Int),m,cl,send,room,ev,true)) hC
 have hB:getI (B++[((1:Int),(0:Int),(0:Int),false,([]:List Int))]) (B.length:Int)=some (1,0,0,false,[]):=getI_new
 have hB2:getI (B++[((1:Int),(0:Int),(0:Int),false,([130]:List Int))]) (B.length:Int)=some (1,0,0,false,[130]):=getI_new
 have hb:=getI_nn hB
 have hbb:eqI (B.length:Int) (B.length:Int)=true:=beq_self_eq_true _
 have hbe:=begins_open (n:=1) (S:=S) h1 hM rfl
 have hte:=tells_at (k:=1) (s:=1) (c:=0) (fs:=[methodF]) (d:=[]) (l:=false) (e:=false) (o:=false) h1 he
 rw [set_two] at hte
 have hen:F_conn_Conn_ends p (B.length:Int) D T P M (C.set p.toNat ((head,true,1000,dec,par,-1),10,peer,enc,q,false,code,false,1,m,cl,send,room,ev,true)) S (B++[(1,0,0,false,[130])])=some (D,T,P,M.set m.toNat [(1,(S.length:Int))],C.set p.toNat ((head,true,1000,dec,par,-1),10,peer,enc,q,false,code,false,1,m,cl,send,room,ev++[(1,1,0,[methodF],[],false,false,false)],true),S++[(1,peer.2.2.2.1,65535)]):=by
  unfold F_conn_Conn_ends chk
  simp only [hp,cond_true,h1,Option.bind_some,hb,hB2,decode82 hD]
  rw [show (((0:Int) != 0)&&((0:Int) != 3))=false from rfl,cond_false,show ((0:Int)==0)=true from rfl,cond_true,recv_idle,Option.bind_some,show ((0:Int)==3)=false from rfl]
  simp only [hbe,Option.bind_some,hte]
  rfl
 have hgo:F_conn_Conn_goesOn p [130] 0 0 0 0 [] false false true D T P M (C.set p.toNat ((head,true,1000,dec,par,(B.length:Int)),10,peer,enc,q,false,code,false,1,m,cl,send,room,ev,true)) S (B++[(1,0,0,false,[])])=some (D,T,P,M.set m.toNat [(1,(S.length:Int))],C.set p.toNat ((head,true,1000,dec,par,-1),10,peer,enc,q,false,code,false,1,m,cl,send,room,ev++[(1,1,0,[methodF],[],false,false,false)],true),S++[(1,peer.2.2.2.1,65535)],B++[(1,0,0,false,[130])]):=by
  have hB3:=getI_set (x:=((1:Int),(0:Int),(0:Int),false,([130]:List Int))) hB
  unfold F_conn_Conn_goesOn chk
  simp only [hp,cond_true,h2,Option.bind_some,hb,hB,hbb,List.nil_append,set_new,hB2]
  rw [show (decide ((([]:List Int).length+([130]:List Int).length)*1<=140737488355328)&&decide (([]:List Int).length+([130]:List Int).length<=maxLen))=true from by decide +kernel,cond_true,show decide ((([130]:List Int).length:Int) > 32768)=false from rfl,cond_false,set_two,hen,Option.bind_some]
 have hh:F_conn_Conn_headers p 1 [130] 0 0 0 0 [] false false true D T P M C S B=some (D,T,P,M.set m.toNat [(1,(S.length:Int))],C.set p.toNat ((head,true,1000,dec,par,-1),10,peer,enc,q,false,code,false,1,m,cl,send,room,ev++[(1,1,0,[methodF],[],false,false,false)],true),S++[(1,peer.2.2.2.1,65535)],B++[(1,0,0,false,[130])]):=by
  unfold F_conn_Conn_headers
  rw [show ((Int.tmod 1 2)==0)=false from rfl,cond_false]
  unfold chk
  simp only [hp,cond_true,hC,Option.bind_some]
  rw [show decide ((1:Int) > 0)=true from rfl,cond_true,open_none h1 hM,Option.bind_some]
  simp only [h1,Option.bind_some]
  rw [show decide ((([]:List Int).length:Int) >= 10)=false from rfl,cond_false,cond_false,set_two,hgo,Option.bind_some]
 unfold F_conn_Conn_reads
 rw [begun_on hC rfl,Option.bind_some]
 dsimp only
 rw [cond_false,hr,Option.bind_some]
 dsimp only
 rw [cond_false,cond_false,cond_false,show ((1:Int)==0)=false from rfl,cond_false,show ((1:Int)==1)=true from rfl,cond_true,hh,Option.bind_some]
end
section
variable {p : Int} {M M' : List CnM} {C C' : List CnC} {S S' : List CnS} {P P' P'' : List PD} {D D' : List DD} {T T' : List TD} {B B' : List BD} {E E' : List ED}
variable {r : Int × Bool × Int × Int × Int × Int} {streams enc code highest m send room : Int} {peer : Int × Int × Int × Int × Int × Int} {q cl : List Int} {dead stopped feeding : Bool} {ev : List CnE}
theorem room_all (hC:getI C p=some (r,streams,peer,enc,q,dead,code,stopped,highest,m,cl,send,room,ev,feeding)):F_conn_Conn_Room p 0 M C S=some room:=by
 have hp:=getI_nn hC
 unfold F_conn_Conn_Room chk
 rw [show ((0:Int)==0)=true from rfl,cond_true]
 simp only [hp,cond_true,hC,Option.bind_some]
theorem room_one {n j st a w:Int} {mm:CnM} (hn:(n==0)=false) (hC:getI C p=some (r,streams,peer,enc,q,dead,code,stopped,highest,m,cl,send,room,ev,feeding)) (hM:getI M m=some mm) (hj:getZ (mapGet mm n) (-1:Int)=j) (hS:getI S j=some (st,a,w)) (ho:isOp st=true):F_conn_Conn_Room p n M C S=some w:=by
 have hp:=getI_nn hC
 have hjn:=getI_nn hS
 have hj1:eqI j (-1)=false:=by
  have:0<=j:=of_decide_eq_true hjn
  exact beq_eq_false_iff_ne.2 (by omega)
 unfold F_conn_Conn_Room chk
 rw [hn,cond_false]
 simp only [hp,cond_true,hC,Option.bind_some,hM,hj,hj1,Bool.not_false,sopen_at hS,ho,hjn,hS]
theorem grant_all {n s j a w:Int} {mm:CnM} (hC:getI C p=some (r,streams,peer,enc,q,false,code,stopped,highest,m,cl,send,room,ev,feeding)) (hM:getI M m=some mm) (hj:getZ (mapGet mm s) (-1:Int)=j) (hS:getI S j=some (1,a,w)) (hs:0<=s /\ s<=2147483647) (h0:0<=w) (h0':0<=room) (hn:1<=n) (h1:w+n<=65535) (h1':room+n<=65535) (hq:q.length+26<=131072) :
  F_conn_Conn_Grant p s n P M C S=some (true,P,C.set p.toNat (r,streams,peer,enc,q++fb 8 0 0 (upB n)++fb 8 0 s (upB n),false,code,stopped,highest,m,cl,send,room+n,ev,feeding),S.set j.toNat (1,a,w+n)):=by
 have hp:=getI_nn hC
 have hC1:=getI_set (x:=(r,streams,peer,enc,q++fb 8 0 0 (upB n),false,code,stopped,highest,m,cl,send,room+n,ev,feeding)) hC
 have hl:(fb 8 0 0 (upB n)).length=13:=by rw [fb_len,upB_len]
 have hg:=givesTo_all (P:=P) hC1 hM hj hS hs h0 hn h1 (by rw [List.length_append,hl];omega)
 rw [set_two] at hg
 unfold F_conn_Conn_Grant chk
 simp only [hp,cond_true,hC,Option.bind_some,Bool.false_or]
 rw [decide_eq_false (show ¬ n < 1 by omega),cond_false,gives_all hC h0' hn h1' (by omega),Option.bind_some]
 simp only [hC1,Option.bind_some,Bool.not_false,cond_true,hg]
theorem grant_full {n s j a:Int} {mm:CnM} (hC:getI C p=some (r,streams,peer,enc,q,false,code,stopped,highest,m,cl,send,65535,ev,feeding)) (hM:getI M m=some mm) (hj:getZ (mapGet mm s) (-1:Int)=j) (hS:getI S j=some (1,a,65535)) (hn:1<=n):F_conn_Conn_Grant p s n P M C S=some (true,P,C,S):=by
 have hp:=getI_nn hC
 unfold F_conn_Conn_Grant chk
 simp only [hp,cond_true,hC,Option.bind_some,Bool.false_or]
 rw [decide_eq_false (show ¬ n < 1 by omega),cond_false,gives_none hC (by decide) (by decide) (.inr rfl),Option.bind_some]
 simp only [hC,Option.bind_some,Bool.not_false,cond_true,givesTo_none hC hM hj hS (by decide) (by decide) (.inr rfl)]
end
section
variable {p : Int} {M M' : List CnM} {C C' : List CnC} {S S' : List CnS} {P P' P'' : List PD} {D D' : List DD} {T T' : List TD} {B B' : List BD} {E E' : List ED}
variable {r : Int × Bool × Int × Int × Int × Int} {streams enc code highest m send room : Int} {peer : Int × Int × Int × Int × Int × Int} {q cl : List Int} {dead stopped feeding : Bool} {ev : List CnE}
theorem turns_close {n j st st' a b:Int} {mm:CnM} (hC:getI C p=some (r,streams,peer,enc,q,dead,code,stopped,highest,m,cl,send,room,ev,feeding)) (hM:getI M m=some mm) (hj:getZ (mapGet mm n) (-1:Int)=j) (hS:getI S j=some (st,a,b)) (ho:isOp st=true) (ho':isOp st'=false) (hcl:cl.length<=60) :
  F_conn_Conn_turns p n st' M C S=some (M,C.set p.toNat (r,streams,peer,enc,q,dead,code,stopped,highest,m,cl++[n],send,room,ev,feeding),S.set j.toNat (st',a,b)):=by
 have hp:=getI_nn hC
 have hjn:=getI_nn hS
 have hj1:eqI j (-1)=false:=by
  have:0<=j:=of_decide_eq_true hjn
  exact beq_eq_false_iff_ne.2 (by omega)
 have hpp:eqI p p=true:=beq_self_eq_true p
 have hm:maxLen=9223372036854775807:=rfl
 have hck:(decide ((cl.length+([n]:List Int).length)*8<=140737488355328)&&decide (cl.length+([n]:List Int).length<=maxLen))=true:=by
  rw [Bool.and_eq_true,decide_eq_true_eq,decide_eq_true_eq]
  simp only [List.length_cons,List.length_nil]
  omega
 have hgt:decide (((cl++[n]).length:Int) > 64)=false:=by
  rw [decide_eq_false]
  simp only [List.length_append,List.length_cons,List.length_nil]
  omega
 have hC1:=getI_set (x:=(r,streams,peer,enc,q,dead,code,stopped,highest,m,cl++[n],send,room,ev,feeding)) hC
 unfold F_conn_Conn_turns chk
 simp only [hp,cond_true,hC,Option.bind_some,hM,hj,hj1,cond_false,sopen_at hS,hjn,hS,sopen_at (getI_set (x:=(st',a,b)) hS),ho,ho',Bool.not_true,hpp,hck,hC1,hgt]
def rsB (code:Int):List Int:=beL code 4
theorem prst (s c:Int):F_part_Rst s c=some (3,0,s,rsB c):=by
 have h:F_part_bits c 4=some (rsB c):=bits_eq _ 4 (by omega)
 unfold F_part_Rst
 rw [h,Option.bind_some]
theorem okR {s c:Int} (hs:0<=s /\ s<=2147483647):okFb 3 0 s (rsB c):=⟨by decide,by decide,hs,by unfold rsB;rw [beL_len];decide⟩
theorem creset {s c j a b:Int} {mm:CnM} (hC:getI C p=some (r,streams,peer,enc,q,false,code,stopped,highest,m,cl,send,room,ev,feeding)) (hM:getI M m=some mm) (h1:1<=s) (hs:s<=2147483647) (h2:(Int.tmod s 2==0)=false) (h3:s<=highest) (hj:getZ (mapGet mm s) (-1:Int)=j) (hS:getI S j=some (1,a,b)) (hcl:cl.length<=60) (hq:q.length+13<=131072) :
  F_conn_Conn_Reset p s c P M C S=some (true,P,M,C.set p.toNat (r,streams,peer,enc,q++fb 3 0 s (rsB c),false,code,stopped,highest,m,cl++[s],send,room,ev,feeding),S.set j.toNat (5,a,b)):=by
 have hp:=getI_nn hC
 have hse:F_life_Send 1 3 false=some (5,true):=by decide +kernel
 have hl:=lays_at (P:=P) (k:=3) (fl:=0) (s:=s) (body:=rsB c) hC (okR ⟨by omega,hs⟩) (by unfold rsB;rw [beL_len];omega)
 have hC1:=getI_set (x:=(r,streams,peer,enc,q++fb 3 0 s (rsB c),false,code,stopped,highest,m,cl,send,room,ev,feeding)) hC
 have ht:=turns_close (n:=s) (st':=5) hC1 hM hj hS rfl rfl hcl
 rw [set_two] at ht
 unfold F_conn_Conn_Reset F_conn_Conn_resets chk
 simp only [hp,cond_true,hC,Option.bind_some,Bool.not_false,state_at hC hM h1 h2 h3 hj hS,hse,prst,hl,ht]
end
section
variable {p : Int} {M M' : List CnM} {C C' : List CnC} {S S' : List CnS} {P P' P'' : List PD} {D D' : List DD} {T T' : List TD} {B B' : List BD} {E E' : List ED}
variable {r : Int × Bool × Int × Int × Int × Int} {streams enc code highest m send room : Int} {peer : Int × Int × Int × Int × Int × Int} {q cl : List Int} {dead stopped feeding : Bool} {ev : List CnE}
theorem recv_reset:F_life_Recv 5 0 false=some (5,false,false,0):=by decide +kernel
theorem data_gone {j a w:Int} {mm:CnM} {d:List Int} (hC:getI C p=some (r,streams,peer,enc,q,false,code,stopped,highest,m,cl,send,65535,ev,feeding)) (hM:getI M m=some mm) (hh:1<=highest) (hj:getZ (mapGet mm 1) (-1:Int)=j) (hS:getI S j=some (5,a,w)) (h1:d.length<=16384) (hq:q.length+13<=131072) :
  ∃ q',F_conn_Conn_data p 0 0 1 d d 0 0 0 0 [] false false false P M C S=some (P,M,C.set p.toNat (r,streams,peer,enc,q',false,code,stopped,highest,m,cl,send,65535,ev,feeding),S) /\ q'.length<=q.length+13:=by
 have hp:=getI_nn hC
 have hC1:=getI_set (x:=(r,streams,peer,enc,q,false,code,stopped,highest,m,cl,send,65535 - (d.length:Int),ev,feeding)) hC
 have hst:=state_at (n:=1) hC1 hM (by decide) rfl hh hj hS
 obtain ⟨q',hg,hq'⟩:∃ q',F_conn_Conn_gives p (d.length:Int) P (C.set p.toNat (r,streams,peer,enc,q,false,code,stopped,highest,m,cl,send,65535 - (d.length:Int),ev,feeding))=some (P,C.set p.toNat (r,streams,peer,enc,q',false,code,stopped,highest,m,cl,send,65535,ev,feeding)) /\ q'.length<=q.length+13:=by
  by_cases h0:d.length=0
  ·refine ⟨q,?_,by omega⟩
   rw [gives_none hC1 (by omega) (by omega) (.inl (by omega))]
   rw [show (65535:Int) - (d.length:Int)=65535 by omega]
  ·refine ⟨q++fb 8 0 0 (upB (d.length:Int)),?_,by rw [List.length_append,fb_len,upB_len];omega⟩
   rw [gives_all hC1 (by omega) (by omega) (by omega) hq,set_two,show (65535:Int) - (d.length:Int)+(d.length:Int)=65535 by omega]
 refine ⟨q',?_,hq'⟩
 unfold F_conn_Conn_data chk
 simp only [hp,cond_true,hC,Option.bind_some]
 rw [decide_eq_false (show ¬ (d.length:Int) > 65535 by omega),cond_false,wB64 (x:=65535 - (d.length:Int)) (by omega) (by omega),hst,Option.bind_some,recv_reset,Option.bind_some]
 simp only [Bool.not_false]
 rw [show (true&&((5:Int) != 5))=false from rfl,cond_false,cond_false,cond_false,show ((5:Int)==5)=true from rfl,cond_true,hg,Option.bind_some]
end
theorem okD {l:List Int} (h:l.length<=16384):okFb 0 0 1 l:=⟨by decide,by decide,by decide,h⟩
section
variable {p : Int} {M M' : List CnM} {C C' : List CnC} {S S' : List CnS} {P P' P'' : List PD} {D D' : List DD} {T T' : List TD} {B B' : List BD} {E E' : List ED}
variable {head list dec par blk streams enc code highest m send room : Int} {begun : Bool} {peer : Int × Int × Int × Int × Int × Int} {q cl : List Int} {dead stopped feeding : Bool} {ev : List CnE}
theorem creads_gone {j a w:Int} {mm:CnM} {d:List Int} (hC:getI C p=some ((head,true,list,dec,par,-1),streams,peer,enc,q,false,code,stopped,highest,m,cl,send,65535,ev,feeding)) (hM:getI M m=some mm) (hh:1<=highest) (hj:getZ (mapGet mm 1) (-1:Int)=j) (hS:getI S j=some (5,a,w)) (hd:d.length<=16384) (hq:q.length+13<=131072) :
  ∃ q',F_conn_Conn_reads p 0 0 1 d D T P M C S B E=some (D,T,P,M,C.set p.toNat ((head,true,list,dec,par,-1),streams,peer,enc,q',false,code,stopped,highest,m,cl,send,65535,ev,feeding),S,B,E) /\ q'.length<=q.length+13:=by
 obtain ⟨q',hg,hq'⟩:=data_gone (P:=P) hC hM hh hj hS hd hq
 refine ⟨q',?_,hq'⟩
 have hrd:F_part_Read 0 0 1 d=some (d,0,0,0,0,[],false,false,false,false,false,0):=by
  rw [read0,bodied_data rfl (by decide +kernel) hd,show decide (bits .and .i64 0 1 > 0)=false from by decide +kernel]
 unfold F_conn_Conn_reads
 rw [begun_on hC rfl,Option.bind_some]
 dsimp only
 rw [cond_false,hrd,Option.bind_some]
 dsimp only
 rw [cond_false,cond_false,cond_false,show ((0:Int)==0)=true from rfl,cond_true,hg,Option.bind_some]
end
section
variable {C1 : List CnC} {S1 : List CnS} {P1 : List PD} {M1 : List CnM} {D : List DD} {T : List TD} {B : List BD} {E : List ED} {list dec enc send : Int} {peer : Int × Int × Int × Int × Int × Int} {q cl z : List Int}
theorem win_feed {w a:Int} (hz:z.length<=2000) (h1:(z.length:Int)<=w) (hw:w<=65535) :
  F_conn_Conn_Feed (C1.length:Int) (fb 0 0 1 z) D T (P1++[(16384,[])]) (M1++[[(1,(S1.length:Int))]]) (C1++[((24,true,list,dec,(P1.length:Int),-1),10,peer,enc,q,false,0,false,1,(M1.length:Int),cl,send,w,[],false)]) (S1++[(1,a,w)]) B E =
   some ([(2,1,0,[],z,false,false,false)],D,T,P1++[(16384,[])],M1++[[(1,(S1.length:Int))]],C1++[((24,true,list,dec,(P1.length:Int),-1),10,peer,enc,q,false,0,false,1,(M1.length:Int),cl,send,w - (z.length:Int),[],false)],S1++[(1,a,w - (z.length:Int))],B,E):=by
 have hPn:getI (P1++[((16384:Int),([]:List Int))]) (P1.length:Int)=some (16384,[]):=getI_new
 have hf:=feed_at (Y:=fb 0 0 1 z) (getI_nn hPn) hPn (by rw [fb_len];show 0+(9+z.length)<=_;omega)
 rw [set_new,List.nil_append] at hf
 have hP2:getI (P1++[((16384:Int),fb 0 0 1 z)]) (P1.length:Int)=some (16384,fb 0 0 1 z++[]):=by rw [List.append_nil];exact getI_new
 have hN:=next_fb (getI_nn hP2) (okD (l:=z) (by omega)) hP2 (by simp)
 rw [set_new] at hN
 have hR:=creads_data (D:=D) (T:=T) (P:=P1++[(16384,[])]) (M:=M1++[[(1,(S1.length:Int))]]) (S:=S1++[(1,a,w)]) (B:=B) (E:=E) (d:=z) (getI_new (l:=C1) (y:=((24,true,list,dec,(P1.length:Int),-1),10,peer,enc,q,false,0,false,1,(M1.length:Int),cl,send,w,[],true))) getI_new (by decide) (show getZ (mapGet [((1:Int),(S1.length:Int))] 1) (-1:Int)=(S1.length:Int) from rfl) (getI_new (l:=S1)) hw hw h1 h1 (by simp) (by omega)
 rw [set_new,set_new] at hR
 have hst:=feed_step (b:=fb 0 0 1 z) (i1:=0) (i2:=0) (i3:=0) (b0:=[]) getI_new hN hR getI_new
 have hen:=short_end (b:=fb 0 0 1 z) (b0:=z) (i1:=0) (i2:=0) (i3:=1) (D:=D) (T:=T) (P:=P1++[((16384:Int),([]:List Int))]) (M:=M1++[[(1,(S1.length:Int))]]) (S:=S1++[(1,a,w - (z.length:Int))]) (B:=B) (E:=E) (getI_new (l:=C1) (y:=((24,true,list,dec,(P1.length:Int),-1),10,peer,enc,q,false,0,false,1,(M1.length:Int),cl,send,w - (z.length:Int),[]++[(2,1,0,[],z,false,false,false)],true))) hPn (by simp)
 rw [set_new] at hen
 exact cfeed_at getI_new hf (by rw [set_new];exact loop_inr hst hen)
theorem gone_feed {a w:Int} (hz:z.length<=2000) (hq:q.length+13<=131072) :
  ∃ q',F_conn_Conn_Feed (C1.length:Int) (fb 0 0 1 z) D T (P1++[(16384,[])]) (M1++[[(1,(S1.length:Int))]]) (C1++[((24,true,list,dec,(P1.length:Int),-1),10,peer,enc,q,false,0,false,1,(M1.length:Int),cl,send,65535,[],false)]) (S1++[(5,a,w)]) B E =
   some ([],D,T,P1++[(16384,[])],M1++[[(1,(S1.length:Int))]],C1++[((24,true,list,dec,(P1.length:Int),-1),10,peer,enc,q',false,0,false,1,(M1.length:Int),cl,send,65535,[],false)],S1++[(5,a,w)],B,E) /\ q'.length<=q.length+13:=by
 have hPn:getI (P1++[((16384:Int),([]:List Int))]) (P1.length:Int)=some (16384,[]):=getI_new
 have hf:=feed_at (Y:=fb 0 0 1 z) (getI_nn hPn) hPn (by rw [fb_len];show 0+(9+z.length)<=_;omega)
 rw [set_new,List.nil_append] at hf
 have hP2:getI (P1++[((16384:Int),fb 0 0 1 z)]) (P1.length:Int)=some (16384,fb 0 0 1 z++[]):=by rw [List.append_nil];exact getI_new
 have hN:=next_fb (getI_nn hP2) (okD (l:=z) (by omega)) hP2 (by simp)
 rw [set_new] at hN
 obtain ⟨q',hR,hq'⟩:=creads_gone (D:=D) (T:=T) (P:=P1++[(16384,[])]) (M:=M1++[[(1,(S1.length:Int))]]) (S:=S1++[(5,a,w)]) (B:=B) (E:=E) (d:=z) (getI_new (l:=C1) (y:=((24,true,list,dec,(P1.length:Int),-1),10,peer,enc,q,false,0,false,1,(M1.length:Int),cl,send,65535,[],true))) getI_new (by decide) (show getZ (mapGet [((1:Int),(S1.length:Int))] 1) (-1:Int)=(S1.length:Int) from rfl) (getI_new (l:=S1)) (by omega) hq
 rw [set_new] at hR
 have hst:=feed_step (b:=fb 0 0 1 z) (i1:=0) (i2:=0) (i3:=0) (b0:=[]) getI_new hN hR getI_new
 have hen:=short_end (b:=fb 0 0 1 z) (b0:=z) (i1:=0) (i2:=0) (i3:=1) (D:=D) (T:=T) (P:=P1++[((16384:Int),([]:List Int))]) (M:=M1++[[(1,(S1.length:Int))]]) (S:=S1++[(5,a,w)]) (B:=B) (E:=E) (getI_new (l:=C1) (y:=((24,true,list,dec,(P1.length:Int),-1),10,peer,enc,q',false,0,false,1,(M1.length:Int),cl,send,65535,[],true))) hPn (by simp)
 rw [set_new] at hen
 exact ⟨q',cfeed_at getI_new hf (by rw [set_new];exact loop_inr hst hen),hq'⟩
end
section
variable {C1 : List CnC} {S1 : List CnS} {P1 : List PD} {M1 : List CnM} {D : List DD} {T : List TD} {B : List BD} {E : List ED} {list dec enc send a : Int} {peer : Int × Int × Int × Int × Int × Int} {cl : List Int}
abbrev rcW (P1:List PD) (M1:List CnM) (list dec enc send:Int) (peer:Int×Int×Int×Int×Int×Int) (cl q:List Int) (w:Int):CnC:=((24,true,list,dec,(P1.length:Int),-1),10,peer,enc,q,false,0,false,1,(M1.length:Int),cl,send,w,[],false)
def WinOut:(Bool×List DD×List TD×List PD×List CnM×List CnC×List CnS×List BD×List ED)⊕(List DD×List TD×List PD×List CnM×List CnC×List CnS×List BD×List ED)->Prop
 | .inl x=>x.1=true
 | .inr _=>True
theorem win_ck {n:Int} (h0:0<=n) (h1:n<=2000):(decide (0<=n)&&decide (n<=n)&&decide (n*1<=140737488355328)&&decide (n<=(maxLen:Int)))=true:=by
 have hm:maxLen=9223372036854775807:=rfl
 simp only [Bool.and_eq_true,decide_eq_true_eq]
 omega
theorem gone_loop {x12:Int×List DD×List TD×List PD×List CnM×List CnC×List ED} (hx:x12.1=(C1.length:Int)) (l:List Int) (hl:l.length<=40) {used w:Int}:∀ (k i:Nat) (q:List Int),i+k=l.length->q.length<=1000+13*i ->
    ∃ o,loopC (F_wlvlaw23_ConnWindows_L16 l true x12) (used,(i:Int),D,T,P1++[(16384,[])],M1++[[(1,(S1.length:Int))]],C1++[rcW P1 M1 list dec enc send peer cl q 65535],S1++[(5,a,w)],B,E)=some o /\ WinOut o
  | 0,i,q,hi,hq=>by
    refine ⟨.inr (D,T,P1++[(16384,[])],M1++[[(1,(S1.length:Int))]],C1++[rcW P1 M1 list dec enc send peer cl q 65535],S1++[(5,a,w)],B,E),loop_inl ?_,trivial⟩
    unfold F_wlvlaw23_ConnWindows_L16
    dsimp only
    rw [decide_eq_false (by omega),cond_false]
  | k+1,i,q,hi,hq=>by
    obtain ⟨n,hn,_⟩:=getI_of (l:=l) (j:=(i:Int)) (by omega) (by omega)
    by_cases hr:n < 0 \/ n > 2000
    · have e : ((decide (n < 0)) || (decide (n > 2000))) = true := by
        rcases hr with h | h <;> simp [h]
      obtain ⟨o,hb,ho⟩:∃ o,F_wlvlaw23_ConnWindows_L16 l true x12 (used,(i:Int),D,T,P1++[(16384,[])],M1++[[(1,(S1.length:Int))]],C1++[rcW P1 M1 list dec enc send peer cl q 65535],S1++[(5,a,w)],B,E)=some (.inl o) /\ WinOut o:=by
        unfold F_wlvlaw23_ConnWindows_L16
        dsimp only
        rw [decide_eq_true (show (i:Int) < (l.length:Int) by omega),cond_true,hn,Option.bind_some,e,cond_true,cfirst_any,Option.bind_some]
        exact ⟨_,rfl,rfl⟩
      exact ⟨o,loop_inl hb,ho⟩
    · obtain ⟨z,hz⟩:∃ z:List Int,List.replicate n.toNat (0:Int)=z:=⟨_,rfl⟩
      have hzl:(z.length:Int)=n:=by rw [<-hz,List.length_replicate];omega
      obtain ⟨q',hf,hq'⟩:=gone_feed (C1:=C1) (S1:=S1) (P1:=P1) (M1:=M1) (D:=D) (T:=T) (B:=B) (E:=E) (list:=list) (dec:=dec) (enc:=enc) (send:=send) (peer:=peer) (q:=q) (cl:=cl) (z:=z) (a:=a) (w:=w) (by omega) (by omega)
      obtain ⟨o,ho,hw⟩:=gone_loop hx l hl (used:=used) (w:=w) k (i+1) q' (by omega) (by omega)
      refine ⟨o,loop_inr ?_ ho,hw⟩
      have hfr:F_wlvlaw23_framed 0 0 1 z=some (fb 0 0 1 z):=framed_eq (okD (by omega))
      unfold F_wlvlaw23_ConnWindows_L16 chk
      dsimp only
      rw [decide_eq_true (show (i:Int) < (l.length:Int) by omega),cond_true,hn,Option.bind_some,decide_eq_false (show ¬ n < 0 by omega),decide_eq_false (show ¬ n > 2000 by omega),Bool.or_self,cond_false,win_ck (by omega) (by omega),cond_true,hz,hfr,Option.bind_some,hx,hf,Option.bind_some]
      dsimp only
      rw [dead_at getI_new,Option.bind_some]
      dsimp only
      rw [cond_false,cond_true,show (((([]:List CnE).length:Nat):Int) != 0)=false from rfl,cond_false,room_all getI_new,Option.bind_some,show ((65535:Int) != 65535)=false from rfl,cond_false,wB64 (x:=(i:Int)+1) (by omega) (by omega)]
      rfl
theorem ne_self (x:Int):(x != x)=false:=by simp
theorem win_loop {x12:Int×List DD×List TD×List PD×List CnM×List CnC×List ED} (hx:x12.1=(C1.length:Int)) (l:List Int) (hl:l.length<=40):∀ (k i:Nat) (q:List Int) (used:Int),i+k=l.length->q.length<=1000+26*i->0<=used->used<=30000 ->
    ∃ o,loopC (F_wlvlaw23_ConnWindows_L16 l false x12) (used,(i:Int),D,T,P1++[(16384,[])],M1++[[(1,(S1.length:Int))]],C1++[rcW P1 M1 list dec enc send peer cl q (65535 - used)],S1++[(1,a,65535 - used)],B,E)=some o /\ WinOut o
  | 0,i,q,used,hi,hq,hu0,hu1=>by
    refine ⟨.inr (D,T,P1++[(16384,[])],M1++[[(1,(S1.length:Int))]],C1++[rcW P1 M1 list dec enc send peer cl q (65535 - used)],S1++[(1,a,65535 - used)],B,E),loop_inl ?_,trivial⟩
    unfold F_wlvlaw23_ConnWindows_L16
    dsimp only
    rw [decide_eq_false (by omega),cond_false]
  | k+1,i,q,used,hi,hq,hu0,hu1=>by
    obtain ⟨n,hn,_⟩:=getI_of (l:=l) (j:=(i:Int)) (by omega) (by omega)
    by_cases hr:n < 0 \/ n > 2000
    · have e : ((decide (n < 0)) || (decide (n > 2000))) = true := by
        rcases hr with h | h <;> simp [h]
      obtain ⟨o,hb,ho⟩:∃ o,F_wlvlaw23_ConnWindows_L16 l false x12 (used,(i:Int),D,T,P1++[(16384,[])],M1++[[(1,(S1.length:Int))]],C1++[rcW P1 M1 list dec enc send peer cl q (65535 - used)],S1++[(1,a,65535 - used)],B,E)=some (.inl o) /\ WinOut o:=by
        unfold F_wlvlaw23_ConnWindows_L16
        dsimp only
        rw [decide_eq_true (show (i:Int) < (l.length:Int) by omega),cond_true,hn,Option.bind_some,e,cond_true,cfirst_any,Option.bind_some]
        exact ⟨_,rfl,rfl⟩
      exact ⟨o,loop_inl hb,ho⟩
    · obtain ⟨z,hz⟩:∃ z:List Int,List.replicate n.toNat (0:Int)=z:=⟨_,rfl⟩
      have hzl:(z.length:Int)=n:=by rw [<-hz,List.length_replicate];omega
      have hf:=win_feed (C1:=C1) (S1:=S1) (P1:=P1) (M1:=M1) (D:=D) (T:=T) (B:=B) (E:=E) (list:=list) (dec:=dec) (enc:=enc) (send:=send) (peer:=peer) (q:=q) (cl:=cl) (z:=z) (a:=a) (w:=65535 - used) (by omega) (by omega) (by omega)
      rw [hzl,show (65535:Int) - used - n=65535 - (used+n) by omega] at hf
      have hfr:F_wlvlaw23_framed 0 0 1 z=some (fb 0 0 1 z):=framed_eq (okD (by omega))
      have hg1:getZ (mapGet [((1:Int),(S1.length:Int))] 1) (-1:Int)=(S1.length:Int):=rfl
      have hrm1:∀ (q:List Int) (w:Int),F_conn_Conn_Room (C1.length:Int) 1 (M1++[[(1,(S1.length:Int))]]) (C1++[rcW P1 M1 list dec enc send peer cl q w]) (S1++[(1,a,w)])=some w:=fun q w=>room_one rfl getI_new getI_new hg1 getI_new rfl
      have hrm0:∀ (q:List Int) (w:Int),F_conn_Conn_Room (C1.length:Int) 0 (M1++[[(1,(S1.length:Int))]]) (C1++[rcW P1 M1 list dec enc send peer cl q w]) (S1++[(1,a,w)])=some w:=fun q w=>room_all getI_new
      have hwu:IntKind.i64.wrap (used+n)=used+n:=wB64 (by omega) (by omega)
      have hwr:IntKind.i64.wrap (65535 - (used+n))=65535 - (used+n):=wB64 (by omega) (by omega)
      have hwi:IntKind.i64.wrap ((i:Int)+1)=((i+1:Nat):Int):=(wB64 (by omega) (by omega)).trans (by omega)
      have hl13:∀ s x:Int,(fb 8 0 s (upB x)).length=13:=fun s x=>by rw [fb_len,upB_len]
      by_cases ho:used+n > 30000
      · have hgr:=grant_all (P:=P1++[(16384,[])]) (n:=used+n) (s:=1) (getI_new (l:=C1) (y:=rcW P1 M1 list dec enc send peer cl q (65535 - (used+n)))) (getI_new (l:=M1) (y:=[(1,(S1.length:Int))])) hg1 (getI_new (l:=S1) (y:=(1,a,65535 - (used+n)))) ⟨by decide,by decide⟩ (by omega) (by omega) (by omega) (by omega) (by omega) (by omega)
        rw [set_new,set_new,show (65535:Int) - (used+n)+(used+n)=65535 by omega] at hgr
        have hgf:=grant_full (P:=P1++[(16384,[])]) (n:=5) (s:=1) (getI_new (l:=C1) (y:=rcW P1 M1 list dec enc send peer cl (q++fb 8 0 0 (upB (used+n))++fb 8 0 1 (upB (used+n))) 65535)) (getI_new (l:=M1) (y:=[(1,(S1.length:Int))])) hg1 (getI_new (l:=S1) (y:=(1,a,65535))) (by decide)
        obtain ⟨o,hlo,hw⟩:=win_loop hx l hl k (i+1) (q++fb 8 0 0 (upB (used+n))++fb 8 0 1 (upB (used+n))) 0 (by omega) (by rw [List.length_append,List.length_append,hl13,hl13];omega) (by omega) (by omega)
        rw [show (65535:Int) - 0=65535 by omega] at hlo
        refine ⟨o,loop_inr ?_ hlo,hw⟩
        unfold F_wlvlaw23_ConnWindows_L16 chk
        dsimp only
        rw [decide_eq_true (show (i:Int) < (l.length:Int) by omega),cond_true,hn,Option.bind_some,decide_eq_false (show ¬ n < 0 by omega),decide_eq_false (show ¬ n > 2000 by omega),Bool.or_self,cond_false,win_ck (by omega) (by omega),cond_true,hz,hfr,Option.bind_some,hx,hf,Option.bind_some]
        dsimp only
        rw [dead_at getI_new,Option.bind_some]
        dsimp only
        rw [cond_false,cond_false,show ((([((2:Int),(1:Int),(0:Int),([]:List Fld),z,false,false,false)]:List CnE).length:Int) != 1)=false from rfl,cond_false,show getI ([(2,1,0,[],z,false,false,false)]:List CnE) 0=some (2,1,0,[],z,false,false,false) from rfl,Option.bind_some]
        dsimp only
        rw [hzl,ne_self,cond_false,hrm1,Option.bind_some,hwu,hwr,ne_self,cond_false,hrm0,Option.bind_some,ne_self,cond_false,decide_eq_true ho,cond_true,hgr,Option.bind_some]
        dsimp only
        rw [Bool.not_true,cond_false,hrm1,Option.bind_some,ne_self,cond_false,hrm0,Option.bind_some,ne_self,cond_false,hgf,Option.bind_some]
        dsimp only
        rw [Bool.not_true,cond_false,hrm1,Option.bind_some,ne_self,cond_false,hwi]
      · obtain ⟨o,hlo,hw⟩:=win_loop hx l hl k (i+1) q (used+n) (by omega) (by omega) (by omega) (by omega)
        refine ⟨o,loop_inr ?_ hlo,hw⟩
        unfold F_wlvlaw23_ConnWindows_L16 chk
        dsimp only
        rw [decide_eq_true (show (i:Int) < (l.length:Int) by omega),cond_true,hn,Option.bind_some,decide_eq_false (show ¬ n < 0 by omega),decide_eq_false (show ¬ n > 2000 by omega),Bool.or_self,cond_false,win_ck (by omega) (by omega),cond_true,hz,hfr,Option.bind_some,hx,hf,Option.bind_some]
        dsimp only
        rw [dead_at getI_new,Option.bind_some]
        dsimp only
        rw [cond_false,cond_false,show ((([((2:Int),(1:Int),(0:Int),([]:List Fld),z,false,false,false)]:List CnE).length:Int) != 1)=false from rfl,cond_false,show getI ([(2,1,0,[],z,false,false,false)]:List CnE) 0=some (2,1,0,[],z,false,false,false) from rfl,Option.bind_some]
        dsimp only
        rw [hzl,ne_self,cond_false,hrm1,Option.bind_some,hwu,hwr,ne_self,cond_false,hrm0,Option.bind_some,ne_self,cond_false,decide_eq_false ho,cond_false,hwi]
end
theorem okH82:okFb 1 4 1 [130]:=⟨by decide,by decide,by decide,by simp⟩
theorem windows_true (D:List DD) (T:List TD) (P:List PD) (M:List CnM) (C:List CnC) (S:List CnS) (B:List BD) (E:List ED) (l:List Int) (rs:Bool):∃ z,F_wlvlaw23_ConnWindows l rs D T P M C S B E=some (true,z):=by
 unfold F_wlvlaw23_ConnWindows
 rw [cfirst_any,Option.bind_some]
 dsimp only
 rw [Bool.not_true,cond_false]
 generalize D++[((T.length:Int)+1,false)]=D1
 generalize E++[((T.length:Int),(4096:Int),(4096:Int))]=E1
 generalize C++[ch 3 1000 T D P M E []]=C1
 generalize T++[(([]:List Fld),((0:Int),(4096:Int))),([],(0,4096))]=T1
 generalize P++[((16384:Int),([]:List Int))]=P1
 generalize M++[([]:CnM)]=M1
 rw [cnew_at,Option.bind_some]
 dsimp only
 rw [show eqI (C1.length:Int) (-1)=false from beq_eq_false_iff_ne.2 (by omega),Bool.false_or]
 by_cases hr:(l.length:Int) > 40
 ·rw [decide_eq_true hr,cond_true,Bool.not_false,cond_true,cfirst_any,Option.bind_some]
  exact ⟨_,rfl⟩
 rw [decide_eq_false hr,cond_false,hello_eq,Option.bind_some]
 have h9:(fb 4 0 0 []).length=9:=by rw [fb_len];rfl
 have h9':(fb 4 1 0 []).length=9:=by rw [fb_len];rfl
 have h21:(fb 4 0 0 (setsB 10 1000)).length=21:=by rw [fb_len,setsB_len]
 have hPn:getI (P1++[((16384:Int),([]:List Int))]) (P1.length:Int)=some (16384,[]):=getI_new
 have hfeed:=feed_at (Y:=fb 4 0 0 []) (getI_nn hPn) hPn (by rw [h9];decide)
 rw [set_new,List.nil_append] at hfeed
 have hTn:getI (T1++[(([]:List Fld),((0:Int),(4096:Int))),([],(0,4096))]) (T1.length:Int)=some ([],0,4096):=getI_new0
 have hTs:(T1++[(([]:List Fld),((0:Int),(4096:Int))),([],(0,4096))]).set (T1.length:Int).toNat ([],(0,4096))=T1++[([],(0,4096)),([],(0,4096))]:=set_same hTn
 rw [cfeed_first (z:=([],D1++[((T1.length:Int)+1,false)],T1++[([],(0,4096)),([],(0,4096))],P1++[(16384,[])],M1++[[]],C1++[ch 10 1000 T1 D1 P1 M1 E1 (fb 4 0 0 (setsB 10 1000)++fb 4 1 0 [])],S,B,E1++[((T1.length:Int),4096,4096)])) getI_new (by rw [h9];decide) hfeed ?_,Option.bind_some]
 ·dsimp only
  have hq30:(fb 4 0 0 (setsB 10 1000)++fb 4 1 0 []).length=30:=by rw [List.length_append,h21,h9']
  obtain ⟨q,hq⟩:∃ q:List Int,fb 4 0 0 (setsB 10 1000)++fb 4 1 0 []=q:=⟨_,rfl⟩
  rw [hq] at hq30 ⊢
  rw [framed_eq okH82,Option.bind_some]
  have hf2:=feed_at (Y:=fb 1 4 1 [130]) (getI_nn hPn) hPn (by rw [fb_len];decide)
  rw [set_new,List.nil_append] at hf2
  have hP2:getI (P1++[((16384:Int),fb 1 4 1 [130])]) (P1.length:Int)=some (16384,fb 1 4 1 [130]++[]):=by rw [List.append_nil];exact getI_new
  have hN:=next_fb (getI_nn hP2) okH82 hP2 (by simp)
  rw [set_new] at hN
  have hR:=creads_req (T:=T1++[([],(0,4096)),([],(0,4096))]) (P:=P1++[(16384,[])]) (S:=S) (B:=B) (E:=E1++[((T1.length:Int),4096,4096)]) (getI_new (l:=C1) (y:=((24,true,1000,(D1.length:Int),(P1.length:Int),-1),10,(4096,1,2147483647,65535,16384,2147483647),(E1.length:Int),q,false,0,false,0,(M1.length:Int),[],65535,65535,[],true))) (getI_new (l:=M1)) (getI_new (l:=D1) (y:=((T1.length:Int)+1,false))) (by simp)
  rw [set_new,set_new] at hR
  have hst:=feed_step (b:=fb 1 4 1 [130]) (i1:=0) (i2:=0) (i3:=0) (b0:=[]) getI_new hN hR getI_new
  have hen:=short_end (b:=fb 1 4 1 [130]) (b0:=[130]) (i1:=1) (i2:=4) (i3:=1) (D:=D1++[((T1.length:Int)+1,false)]) (T:=T1++[([],(0,4096)),([],(0,4096))]) (P:=P1++[((16384:Int),([]:List Int))]) (M:=M1++[[(1,(S.length:Int))]]) (S:=S++[(1,65535,65535)]) (B:=B++[(1,0,0,false,[130])]) (E:=E1++[((T1.length:Int),4096,4096)]) (getI_new (l:=C1) (y:=((24,true,1000,(D1.length:Int),(P1.length:Int),-1),10,(4096,1,2147483647,65535,16384,2147483647),(E1.length:Int),q,false,0,false,1,(M1.length:Int),[],65535,65535,[]++[(1,1,0,[methodF],[],false,false,false)],true))) hPn (by simp)
  rw [set_new] at hen
  rw [cfeed_at getI_new hf2 (by rw [set_new];exact loop_inr hst hen),Option.bind_some]
  dsimp only
  have hg1:getZ (mapGet [((1:Int),(S.length:Int))] 1) (-1:Int)=(S.length:Int):=rfl
  rw [state_at getI_new getI_new (by decide) rfl (by decide) hg1 getI_new,Option.bind_some,show ((1:Int) != 1)=false from rfl,cond_false]
  have hJ:∀ o,WinOut o -> ∃ z,joinC (some o) F_wlvlaw23_ConnWindows_J14=some (true,z):=fun o ho=>by
   cases o with
   | inl x=>
    obtain ⟨b,y⟩:=x
    have hb:b=true:=ho
    subst hb
    exact ⟨y,rfl⟩
   | inr y=>
    obtain ⟨y1,y2,y3,y4,y5,y6,y7,y8⟩:=y
    refine Exists.imp (fun z hz=>(join_inr rfl).trans hz) ?_
    unfold F_wlvlaw23_ConnWindows_J14
    dsimp only
    rw [cfirst_any,Option.bind_some]
    exact ⟨_,rfl⟩
  cases rs with
  | false=>
   rw [cond_false]
   obtain ⟨o,ho,hw⟩:=win_loop (C1:=C1) (S1:=S) (P1:=P1) (M1:=M1) (D:=D1++[((T1.length:Int)+1,false)]) (T:=T1++[([],(0,4096)),([],(0,4096))]) (B:=B++[(1,0,0,false,[130])]) (E:=E1++[((T1.length:Int),4096,4096)]) (list:=1000) (dec:=(D1.length:Int)) (enc:=(E1.length:Int)) (send:=65535) (a:=65535) (peer:=(4096,1,2147483647,65535,16384,2147483647)) (cl:=[]) (x12:=((C1.length:Int),D1++[((T1.length:Int)+1,false)],T1++[([],(0,4096)),([],(0,4096))],P1++[(16384,[])],M1++[[]],C1++[c0 10 1000 D1 P1 M1 E1],E1++[((T1.length:Int),4096,4096)])) rfl l (by omega) l.length 0 q 0 (by omega) (by omega) (by omega) (by omega)
   rw [show (65535:Int) - 0=65535 by omega] at ho
   have ho:loopC (F_wlvlaw23_ConnWindows_L16 l false _) (0,0,_)=some o:=ho
   rw [ho]
   exact hJ o hw
  | true=>
   rw [cond_true,creset (getI_new (l:=C1)) (getI_new (l:=M1)) (by decide) (by decide) rfl (by decide) hg1 (getI_new (l:=S)) (by simp) (by omega),Option.bind_some,set_new,set_new]
   dsimp only
   rw [Bool.not_true,cond_false]
   have hl13:(fb 3 0 1 (rsB 8)).length=13:=by rw [fb_len];unfold rsB;rw [beL_len]
   obtain ⟨o,ho,hw⟩:=gone_loop (C1:=C1) (S1:=S) (P1:=P1) (M1:=M1) (D:=D1++[((T1.length:Int)+1,false)]) (T:=T1++[([],(0,4096)),([],(0,4096))]) (B:=B++[(1,0,0,false,[130])]) (E:=E1++[((T1.length:Int),4096,4096)]) (list:=1000) (dec:=(D1.length:Int)) (enc:=(E1.length:Int)) (send:=65535) (a:=65535) (peer:=(4096,1,2147483647,65535,16384,2147483647)) (cl:=[]++[1]) (x12:=((C1.length:Int),D1++[((T1.length:Int)+1,false)],T1++[([],(0,4096)),([],(0,4096))],P1++[(16384,[])],M1++[[]],C1++[c0 10 1000 D1 P1 M1 E1],E1++[((T1.length:Int),4096,4096)])) rfl l (by omega) (used:=0) (w:=65535) l.length 0 (q++fb 3 0 1 (rsB 8)) (by omega) (by rw [List.length_append,hl13];omega)
   have ho:loopC (F_wlvlaw23_ConnWindows_L16 l true _) (0,0,_)=some o:=ho
   rw [ho]
   exact hJ o hw
 ·rw [set_new]
  refine hello_step (rest:=[]) (t:=(T1.length:Int)) (z:=0) (l:=4096) (w:=4096) getI_new (by rw [List.append_nil];exact getI_new) getI_new getI_new hTn (by rw [h21];decide) (by simp) ?_
  rw [hTs,set_new,set_new]
  refine (short_end getI_new getI_new (by simp)).trans ?_
  rw [set_new]
theorem ConnWindows_true (l:List Int) (rs:Bool):∃ z,F_wlvlaw23_ConnWindows l rs [] [] [] [] [] [] [] []=some (true,z):=windows_true [] [] [] [] [] [] [] [] l rs
end Go.Proofs.YtifbhefbhlbofaaGreatDoor
