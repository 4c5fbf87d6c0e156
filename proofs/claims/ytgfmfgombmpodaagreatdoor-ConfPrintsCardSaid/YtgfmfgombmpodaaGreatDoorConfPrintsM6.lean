/- Texts of this claim, one behind the other. -/
import Derived.Test.YtgfmfgombmpodaaGreatDoorConfPrintsM5
set_option maxRecDepth 100000
namespace Go.Proofs.YtgfmfgombmpodaaGreatDoor
open Pv
set_option linter.unusedVariables false
theorem itoa_neg (n:Nat) (h:1<=n):itoaI (-(n:Int))=45::dgs n:=by
 unfold itoaI dgs
 rw [Lib.itoa_neg n h];rfl
theorem itoa_ln (n:Int) (h1 : -9223372036854775808<=n) (h2:n<=9223372036854775807):(itoaI n).length<=21:=by
 unfold itoaI
 rw [List.length_map]
 exact Lib.itoa_length_le n h1 h2
theorem toB_neg (n:Nat):toB (45::dgs n)=45::Lib.decDigits n:=by
 show (45:Int).toNat.toUInt8::toB (dgs n)=_
 rw [toB_dgs];rfl
theorem atoi_neg (n:Nat) (h1:1<=n) (h:n<=9223372036854775808):atoiP (45::dgs n)=(-(n:Int),false):=by
 unfold atoiP
 rw [toB_neg]
 obtain ⟨c,r,e1,e2,e3⟩:=dec_cons n
 have hp:=parse_dec (n+1) n (by omega) (by omega)
 have:Lib.atoiAll (45::Lib.decDigits n)=.ok (-(n:Int)):=by
  unfold Lib.atoiAll
  dsimp only
  rw [if_pos (.inr (by decide))]
  unfold Lib.parseMag
  rw [if_neg (by rw [e1];simp),hp]
  dsimp only
  rw [if_neg (by intro q;exact q.1 (by decide)),if_neg (by omega),if_pos (by decide)]
 rw [this]
theorem atoi_itoa (z:Int) (h1 : -9223372036854775808<=z) (h2:z<=9223372036854775807):atoiP (itoaI z)=(z,false):=by
 rcases Int.lt_or_le z 0 with h | h
 ·obtain ⟨n,rfl⟩:∃ n:Nat,z = -(n:Int):=⟨z.natAbs,by omega⟩
  rw [itoa_neg n (by omega)]
  exact atoi_neg n (by omega) (by omega)
 ·obtain ⟨n,rfl⟩:∃ n:Nat,z=(n:Int):=⟨z.toNat,by omega⟩
  rw [itoa_dgs]
  exact atoi_dgs n (by omega)
theorem number_itoa (z lo hi:Int) (h1 : -9223372036854775808<=z) (h2:z<=9223372036854775807):F_conf_number (itoaI z) lo hi=some (z,decide (z >= lo)&&decide (z<=hi)):=by
 have hl:=itoa_ln z h1 h2
 unfold F_conf_number
 rw [show F_strconv_Atoi (itoaI z)=some (z,false) by
  unfold F_strconv_Atoi
  rw [Nat.ble_eq_true_of_le (by omega),atoi_itoa z h1 h2];rfl,Option.bind_some]
 rw [show notB (z,false).2=true from rfl,cond_true]
 unfold F_strconv_Itoa
 rw [Option.bind_some,beq_self_eq_true,Bool.true_and]
def hexT (l:List Int):List Int:=(hexB l).map byteI
def hx2 (x:Int):List Int:=(hex2 x).map byteI
theorem chex_eq {l:List Int} (h:l.length<=1000000):F_conf_Hex l=some (hexT l):=by
 unfold F_conf_Hex hexT
 rw [Nat.ble_eq_true_of_le (by omega)];rfl
theorem hexK_flat (l:List Int):∀ k,k<=l.length->hexK l k=(l.take k).flatMap hex2
 | 0,_=>by simp [hexK]
 | k+1,h=>by
  show hexK l k++hex2 (l.getD k 0)=_
  rw [hexK_flat l k (by omega),List.take_add_one,List.flatMap_append]
  have hk:l[k]? = some l[k]:=List.getElem?_eq_getElem (by omega)
  rw [hk,List.getD_eq_getElem?_getD,hk]
  simp
theorem hexT_flat (l:List Int):hexT l=l.flatMap hx2:=by
 unfold hexT hexB
 rw [hexK_flat l l.length (Nat.le_refl _),List.take_length,List.map_flatMap]
 rfl
theorem hexT_app (a b:List Int):hexT (a++b)=hexT a++hexT b:=by
 rw [hexT_flat,hexT_flat,hexT_flat,List.flatMap_append]
theorem hexT_cons (x:Int) (b:List Int):hexT (x::b)=hx2 x++hexT b:=by
 rw [hexT_flat,hexT_flat];rfl
theorem hexT_ln (l:List Int):(hexT l).length=2*l.length:=by
 unfold hexT hexB
 rw [List.length_map,hexK_len]
theorem hx2_f:∀ q:Fin 256,puxP (hx2 (q.val:Int))=((q.val:Int),false):=by decide +kernel
theorem pux_hx2 {x:Int} (h0:0<=x) (h1:x < 256):F_strconv_ParseUint (hx2 x) 16 8=some (x,false):=by
 have:=hx2_f ⟨x.toNat,by omega⟩
 simp only [show ((x.toNat:Nat):Int)=x by omega] at this
 unfold F_strconv_ParseUint
 rw [this]
 rfl
theorem bytes_loop:∀ (suf pre:List Int),(∀ x∈suf,0<=x /\ x < 256)->pre.length+suf.length<=100000->loopC (F_conf_bytesOf_L4 (hexT (pre++suf))) (pre,((2*pre.length:Nat):Int))=some (.inr (pre++suf))
 | [],pre,hb,hl=>by
  refine loop_inl ?_
  unfold F_conf_bytesOf_L4
  dsimp only
  rw [List.append_nil,hexT_ln,wrap_in (by omega) (by omega),decide_eq_false (by omega),cond_false]
 | x::suf,pre,hb,hl=>by
  have hx:=hb x (by simp)
  rw [List.length_cons] at hl
  have hcut:cutI (hexT (pre++x::suf)) ((2*pre.length:Nat):Int) (((2*pre.length:Nat):Int)+2)=some (hx2 x):=by
   have hln:(hexT (pre++x::suf)).length=2*(pre.length+(suf.length+1)):=by rw [hexT_ln,List.length_append,List.length_cons]
   unfold cutI
   rw [hln,decide_eq_true (by omega),decide_eq_true (by omega),decide_eq_true (by omega),Bool.and_self,Bool.and_self,cond_true]
   rw [show (((2*pre.length:Nat):Int)+2).toNat=2*pre.length+2 by omega,Int.toNat_natCast,hexT_app,hexT_cons]
   rw [<-hexT_ln pre,List.take_append,List.take_of_length_le (by omega),show (hexT pre).length+2 - (hexT pre).length=2 by omega,show (hx2 x++hexT suf).take 2=hx2 x from rfl,List.drop_left]
  refine loop_inr (s':=(pre++[x],((2*(pre++[x]).length:Nat):Int))) ?_ ?_
  ·unfold F_conf_bytesOf_L4
   dsimp only
   rw [hexT_ln,List.length_append,List.length_cons,wrap_in (by omega) (by omega),decide_eq_true (by omega),cond_true,wrap_in (by omega) (by omega),hcut,Option.bind_some,pux_hx2 hx.1 hx.2,Option.bind_some,cond_false]
   rw [show IntKind.u8.wrap x=x from by show x % 256=x;omega]
   unfold chk
   have hm:maxLen=9223372036854775807:=rfl
   rw [decide_eq_true (by simp;omega),decide_eq_true (by simp;omega),Bool.and_self,cond_true]
   rw [show ((2*pre.length:Nat):Int)+2=((2*(pre++[x]).length:Nat):Int) by simp;omega]
  ·have:=bytes_loop suf (pre++[x]) (fun y hy=>hb y (by simp [hy])) (by simp;omega)
   rw [List.append_assoc] at this
   exact this
theorem bytesOf_hex {l:List Int} (hb:∀ x∈l,0<=x /\ x < 256) (hl:l.length<=100000) (lo hi:Int):F_conf_bytesOf (hexT l) lo hi=some (l,decide ((l.length:Int) >= lo)&&decide ((l.length:Int)<=hi)):=by
 have h:=bytes_loop l [] hb (by simpa using hl)
 unfold F_conf_bytesOf
 rw [show loopC (F_conf_bytesOf_L4 (hexT l)) (([]:List Int),0)=_ from h]
 show F_conf_bytesOf_J2 (hexT l) lo hi l=_
 unfold F_conf_bytesOf_J2
 dsimp only
 rw [chex_eq (by omega),Option.bind_some,beq_self_eq_true,Bool.true_and]
structure UserOk (u:UserD):Prop where
 name:F_conf_named u.1=some true
 nosp:∀ x∈u.1,x≠32
 short:u.1.length<=64
 salt:∀ x∈u.2.1.1,0<=x /\ x < 256
 saltl:1<=u.2.1.1.length /\ u.2.1.1.length<=32
 dig:∀ x∈u.2.1.2,0<=x /\ x < 256
 digl:u.2.1.2.length=32
 many:1<=u.2.2.1 /\ u.2.2.1<=1000
def userLine (nm sa di:List Int) (t up dn:Int):List Int:=lbU++32::(nm++32::(hexT sa++32::(hexT di++32::(itoaI t++32::(itoaI up++32::itoaI dn)))))
def ruleLine (al:Bool) (nm p s:List Int):List Int:=cond al lbA lbD++32::(nm++32::(p++32::s))
theorem idxZ_none (c:Int):∀ (s:List Int),(∀ x∈s,x≠c)->idxI s c = -1
 | [],_=>rfl
 | x::s,h=>by
  unfold idxI
  rw [beq_eq_false_iff_ne.2 (h x (by simp)),cond_false,idxZ_none c s fun y hy=>h y (by simp [hy])];rfl
theorem cutZ_none (s:List Int) (c:Int) (h:∀ x∈s,x≠c):F_strings_Cut s [c]=some (s,[],false):=by
 unfold F_strings_Cut F_internal_stringslite_Cut
 show ((some (idxI s c)).bind _).bind _=_
 rw [idxZ_none c s h];rfl
theorem split_cover (c0:Int):∀ (s:List Int) (c:Int),c∈s->c=c0 \/ ∃ w∈splitI s c0,c∈w
 | [],_,h=>by cases h
 | x::s,c,h=>by
  have hne:=splitI_ne s c0
  have hu:splitI (x::s) c0=cond (x==c0) ([]::splitI s c0) (match splitI s c0 with | []=>[[x]] | w::q=>(x::w)::q):=rfl
  rcases List.mem_cons.1 h with rfl | h
  ·by_cases hx:c=c0
   ·exact .inl hx
   ·rw [hu,beq_eq_false_iff_ne.2 hx,cond_false]
    cases hq:splitI s c0 with
    | nil=>exact absurd hq hne
    | cons w q=>exact .inr ⟨c::w,by simp,by simp⟩
  ·rcases split_cover c0 s c h with h1 | ⟨w,h1,h2⟩
   ·exact .inl h1
   ·rw [hu]
    cases x==c0 with
    | true=>exact .inr ⟨w,List.mem_cons_of_mem _ h1,h2⟩
    | false=>
     rw [cond_false]
     cases hq:splitI s c0 with
     | nil=>exact absurd hq hne
     | cons w' q=>
      rw [hq] at h1
      rcases List.mem_cons.1 h1 with rfl | h1
      ·exact .inr ⟨x::w,by simp,by simp [h2]⟩
      ·exact .inr ⟨w,List.mem_cons_of_mem _ h1,h2⟩
theorem four_chars {s:List Int} (h:(fourR s).2=true):∀ c∈s,c=46 \/ isDig c=true:=fun c hc=>by
 unfold fourR at h
 cases hb:(decide ((splitI s 46).length=4)&&(splitI s 46).all byteB) with
 | false=>rw [hb] at h;cases h
 | true=>
  rw [Bool.and_eq_true] at hb
  rcases split_cover 46 s c hc with h1 | ⟨w,h1,h2⟩
  ·exact .inl h1
  ·right
   have hw:=List.all_eq_true.1 hb.2 w h1
   unfold byteB canonB at hw
   simp only [Bool.and_eq_true] at hw
   exact List.all_eq_true.1 hw.1.1 c h2
theorem four_no {s:List Int} (h:(fourR s).2=true) {x:Int} (hx:x=58 \/ x=91):x ∉ s:=fun hc=>by
 rcases four_chars h x hc with h1 | h1
 ·omega
 ·have:=dig_of h1;omega
theorem dc_none:∀ (s:List Int),(∀ c∈s,c≠58)->dcI s=none:=fun s h=>by
 have:=dc_p s [] h
 rw [List.append_nil] at this
 rw [this];rfl
theorem grp_58 {s x:List Int} (h:grpR [] s=some x):(58:Int)∈s:=by
 by_cases hm:(58:Int)∈s
 ·exact hm
 ·have hn:∀ c∈s,c≠58:=fun c hc e=>hm (by rw [<-e];exact hc)
  unfold grpR at h
  rw [dc_none s hn,split_p s hn] at h
  have:([s].all hexGB&&(([]:List Int).length+2*[s].length==16))=false:=by
   rw [show (([]:List Int).length+2*[s].length==16)=false from rfl,Bool.and_false]
  rw [this] at h
  cases h
theorem canon_17 {t:List Int} (h:canonB t=true) (hv:valI t<=65535):t.length<=17:=by
 obtain ⟨n,rfl,hn⟩:=canon_eq t.length t rfl h
 have:=dgs_len 4 n (by rw [hn] at hv;omega)
 omega
theorem joinP_two (p q:List Int) (r:List (List Int)) (c:Int):joinP (p::q::r) [c]=p++c::joinP (q::r) [c]:=by
 unfold joinP List.intercalate
 rw [List.intersperse_cons_cons,List.flatten_cons,List.flatten_cons]
 rfl
theorem joinP_one (p:List Int) (c:Int):joinP [p] [c]=p:=by
 unfold joinP List.intercalate
 simp
theorem split_join (c:Int):∀ (p:List Int) (r:List (List Int)),(∀ q∈p::r,∀ x∈q,x≠c)->splitI (joinP (p::r) [c]) c=p::r
 | p,[],h=>by
  rw [joinP_one,splitI_miss (h p (by simp))]
 | p,q::r,h=>by
  rw [joinP_two,splitI_hit (h p (by simp)),split_join c q r fun w hw=>h w (List.mem_cons_of_mem _ hw)]
theorem join_head:∀ (q:List Int) (r:List (List Int)) (c:Int),q≠[]->(joinP (q::r) [c]).head? = q.head?
 | q,[],c,h=>by rw [joinP_one]
 | q,q'::r,c,h=>by
  rw [joinP_two]
  cases q with
  | nil=>exact absurd rfl h
  | cons x q=>rfl
theorem dc_join:∀ (p:List Int) (r:List (List Int)),(∀ q∈p::r,q≠[] /\ ∀ x∈q,x≠58)->dcI (joinP (p::r) [58])=none
 | p,[],h=>by
  rw [joinP_one]
  have:=dc_p p [] (h p (by simp)).2
  rw [List.append_nil] at this
  rw [this];rfl
 | p,q::r,h=>by
  rw [joinP_two,dc_p p _ (h p (by simp)).2]
  have hq:=h q (by simp)
  have ih:=dc_join q r fun w hw=>h w (List.mem_cons_of_mem _ hw)
  have hh:=join_head q r 58 hq.1
  show (cond ((58:Int)==58&&(joinP (q::r) [58]).head? == some 58) (some 0) ((dcI (joinP (q::r) [58])).map (· + 1))).map _=none
  rw [ih,hh]
  have:(q.head? == some 58)=false:=by
   cases q with
   | nil=>exact absurd rfl hq.1
   | cons x q => 
    rw [beq_eq_false_iff_ne]
    intro e
    injection e with e
    exact hq.2 x (by simp) e
  rw [this];rfl
theorem join_len (c:Int):∀ (l:List (List Int)),(∀ q∈l,q.length<=20)->(joinP l [c]).length<=21*l.length
 | [],_=>by simp [joinP,List.intercalate]
 | [p],h=>by rw [joinP_one];have:=h p (by simp);simp;omega
 | p::q::r,h=>by
  have ih:=join_len c (q::r) fun w hw=>h w (List.mem_cons_of_mem _ hw)
  have:=h p (by simp)
  rw [joinP_two,List.length_append,List.length_cons]
  simp at ih ⊢
  omega
theorem hexd_dg {q:Nat} (h:q < 16):dg (hexd q)=q:=by
 unfold hexd dg
 split
 ·rw [if_pos (by omega)];omega
 ·rw [if_neg (by omega),if_pos (by omega)];omega
theorem hexV_snoc (p:List Int) (c:Int):hexV (p++[c])=hexV p*16+dg c:=by
 unfold hexV
 rw [List.foldl_append];rfl
theorem hexV_hexI:∀ (k n:Nat),n < 16 ^ (k+1)->n < 65536->hexV (hexI n)=n
 | 0,n,h,_=>by
  have h:n < 16:=by simpa using h
  rw [hexI_one h]
  show 0*16+dg (hexd n)=_
  rw [hexd_dg h];omega
 | k+1,n,h,h2=>by
  by_cases h16:n < 16
  ·rw [hexI_one h16]
   show 0*16+dg (hexd n)=_
   rw [hexd_dg h16];omega
  ·rw [hexI_step h16 h2,hexV_snoc,hexV_hexI k (n / 16) (by rw [Nat.pow_succ] at h;omega) (by omega),hexd_dg (by omega)]
   omega
theorem hexB_hexI {n:Nat} (h:n < 65536):hexGB (hexI n)=true:=by
 obtain ⟨a,b⟩:=hex_len 3 n (by simpa using h) h
 unfold hexGB
 rw [decide_eq_true a,decide_eq_true b,Bool.true_and,Bool.true_and,List.all_eq_true]
 intro c hc
 have:=hex_mem 3 n (by simpa using h) h c hc
 refine decide_eq_true ?_
 unfold dg
 rcases this with h | h
 ·rw [if_pos h];omega
 ·rw [if_neg (by omega),if_pos h];omega
def pairsN:List Int->List Nat
 | a::b::r=>(a*256+b).toNat::pairsN r
 | _=>[]
theorem pairs_bytes:∀ (s:List Int),s.length % 2=0->(∀ x∈s,0<=x /\ x < 256)->bytesP ((pairsN s).map hexI)=s
 | [],_,_=>rfl
 | [_],h,_=>by cases h
 | a::b::r,h,hs=>by
  have ha:=hs a (by simp)
  have hb:=hs b (by simp)
  have ih:=pairs_bytes r (by simp at h;omega) fun x hx=>hs x (by simp [hx])
  show bytesP (hexI (a*256+b).toNat::(pairsN r).map hexI)=_
  rw [bytesP_cons,ih,hexV_hexI 3 _ (by simp;omega) (by omega)]
  unfold by2
  rw [show ((a*256+b).toNat:Int) / 256 % 256=a by omega,show ((a*256+b).toNat:Int) % 256=b by omega]
  rfl
theorem pairs_lt:∀ (s:List Int),(∀ x∈s,0<=x /\ x < 256) -> ∀ n∈pairsN s,n < 65536
 | [],_,_,h=>by cases h
 | [_],_,_,h=>by cases h
 | a::b::r,hs,n,h=>by
  have ha:=hs a (by simp)
  have hb:=hs b (by simp)
  rcases List.mem_cons.1 h with rfl | h
  ·omega
  ·exact pairs_lt r (fun x hx=>hs x (by simp [hx])) n h
theorem pairs_len:∀ (s:List Int),(pairsN s).length=s.length / 2
 | []=>rfl
 | [_]=>by simp [pairsN]
 | a::b::r=>by
  show (pairsN r).length+1=(r.length+1+1) / 2
  rw [pairs_len r];omega
def printR (s:List Int):List Int:=
 cond (s.length==4) (joinP (s.map fun x=>dgs x.toNat) [46]) (cond (s.length==16) (joinP ((pairsN s).map hexI) [58]) [])
theorem dgs_val {x:Int} (h:0<=x):valI (dgs x.toNat)=x:=by
 have:=(dgs_spec (x.toNat+1) x.toNat (Nat.lt_succ_self _)).2.1
 rw [this];omega
theorem dgs_dig {n:Nat} {c:Int} (h:c∈dgs n):48<=c /\ c<=57:=by
 have:=(dgs_spec (n+1) n (Nat.lt_succ_self _)).1
 exact dig_of (List.all_eq_true.1 this c h)
theorem parse_four (s:List Int) (hl:s.length=4) (hs:∀ x∈s,0<=x /\ x < 256):fourR (joinP (s.map fun x=>dgs x.toNat) [46])=(s,true):=by
 match s,hl with
 | [a,b,c,d],_=>
  have e:splitI (joinP ([a,b,c,d].map fun x=>dgs x.toNat) [46]) 46=[a,b,c,d].map fun x=>dgs x.toNat:=by
   refine split_join 46 _ _ fun q hq x hx=>?_
   have hq:q∈[a,b,c,d].map fun x=>dgs x.toNat:=hq
   obtain ⟨y,_,rfl⟩:=List.mem_map.1 hq
   have:=dgs_dig hx
   omega
  have hb:∀ x∈[a,b,c,d],byteB (dgs x.toNat)=true:=fun x hx=>by
   have:=hs x hx
   unfold byteB
   rw [canon_dgs,dgs_val this.1,Bool.true_and]
   exact decide_eq_true (by omega)
  have hv:∀ x∈[a,b,c,d],valI (dgs x.toNat)=x:=fun x hx=>dgs_val (hs x hx).1
  unfold fourR
  rw [e]
  have h1:(([a,b,c,d].map fun x=>dgs x.toNat).all byteB)=true:=by
   rw [List.all_eq_true]
   intro q hq
   obtain ⟨y,hy,rfl⟩:=List.mem_map.1 hq
   exact hb y hy
  rw [h1,Bool.and_true,decide_eq_true (show ([a,b,c,d].map fun x=>dgs x.toNat).length=4 from rfl),cond_true,List.map_map]
  congr 1
  show [valI (dgs a.toNat),valI (dgs b.toNat),valI (dgs c.toNat),valI (dgs d.toNat)]=_
  rw [hv a (by simp),hv b (by simp),hv c (by simp),hv d (by simp)]
theorem group_part {s:List Int} (hs:∀ x∈s,0<=x /\ x < 256):∀ q∈(pairsN s).map hexI,q≠[] /\ ∀ x∈q,x≠58:=fun q hq=>by
 obtain ⟨n,hn,rfl⟩:=List.mem_map.1 hq
 have hlt:=pairs_lt s hs n hn
 have hl:=hex_len 3 n (by simpa using hlt) hlt
 refine ⟨fun e=>by rw [e] at hl;simp at hl,fun x hx=>?_⟩
 have:=hex_mem 3 n (by simpa using hlt) hlt x hx
 omega
theorem join_mem (c:Int):∀ (p q:List Int) (r:List (List Int)),c∈joinP (p::q::r) [c]:=fun p q r=>by
 rw [joinP_two];simp
theorem print16_58 {s:List Int} (hl:s.length=16):(58:Int)∈joinP ((pairsN s).map hexI) [58]:=by
 match s,hl with
 | a::b::c::d::r,_=>exact join_mem 58 _ _ _
theorem parse_sixteen (s:List Int) (hl:s.length=16) (hs:∀ x∈s,0<=x /\ x < 256):grpR [] (joinP ((pairsN s).map hexI) [58])=some s:=by
 have hlen:((pairsN s).map hexI).length=8:=by rw [List.length_map,pairs_len,hl]
 have hall:((pairsN s).map hexI).all hexGB=true:=by
  rw [List.all_eq_true]
  intro q hq
  obtain ⟨n,hn,rfl⟩:=List.mem_map.1 hq
  exact hexB_hexI (pairs_lt s hs n hn)
 have hpart:=group_part hs
 have hb:=pairs_bytes s (by omega) hs
 generalize (pairsN s).map hexI=ps at *
 cases ps with
 | nil=>cases hlen
 | cons p r=>
  unfold grpR
  rw [dc_join p r hpart,split_join 58 p r fun q hq=>(hpart q hq).2]
  show cond ((p::r).all hexGB&&(0+2*(p::r).length==16)) _ _=_
  rw [hall,hlen]
  show some ([]++bytesP (p::r))=_
  rw [hb];rfl
theorem by2_byte (n:Int):∀ x∈by2 n,isB x:=by
 intro x hx
 unfold by2 at hx
 simp at hx
 rcases hx with rfl | rfl
 ·exact ⟨by omega,by omega⟩
 ·exact ⟨by omega,by omega⟩
theorem bytesP_byte (ps:List (List Int)):∀ x∈bytesP ps,isB x:=fun x hx=>by
 unfold bytesP at hx
 obtain ⟨p,_,h⟩:=List.mem_flatMap.1 hx
 exact by2_byte _ x h
theorem insZ_byte {b:List Int} {g:Nat} (h:∀ x∈b,isB x):∀ x∈insZ b g,isB x:=fun x hx=>by
 unfold insZ at hx
 simp only [List.mem_append] at hx
 rcases hx with (hx | hx) | hx
 ·exact h x (List.mem_of_mem_take hx)
 ·rw [(List.mem_replicate.1 hx).2];exact ⟨by decide,by decide⟩
 ·exact h x (List.mem_of_mem_drop hx)
theorem grp_byte {s x:List Int} (h:grpR [] s=some x):∀ y∈x,isB y:=by
 unfold grpR at h
 split at h
 ·cases hc:((splitI s 58).all hexGB&&(([]:List Int).length+2*(splitI s 58).length==16)) with
  | false=>rw [hc] at h;cases h
  | true=>
   rw [hc,cond_true] at h
   injection h with h
   rw [<-h,List.nil_append]
   exact bytesP_byte _
 ·rename_i i hd
  cases hc:((partsO (s.take i)).all hexGB&&(partsO (s.drop (i+2))).all hexGB&&decide (([]:List Int).length+2*(partsO (s.take i)).length+2*(partsO (s.drop (i+2))).length<=14)) with
  | false=>rw [hc] at h;cases h
  | true=>
   rw [hc,cond_true] at h
   injection h with h
   rw [<-h,List.nil_append]
   refine insZ_byte fun y hy=>?_
   rcases List.mem_append.1 hy with hy | hy
   ·exact bytesP_byte _ y hy
   ·exact bytesP_byte _ y hy
theorem four_byte {s:List Int} (h:(fourR s).2=true):(fourR s).1.length=4 /\ ∀ y∈(fourR s).1,isB y:=by
 unfold fourR at h ⊢
 cases hc:(decide ((splitI s 46).length=4)&&(splitI s 46).all byteB) with
 | false=>rw [hc] at h;cases h
 | true=>
  rw [cond_true]
  rw [Bool.and_eq_true,decide_eq_true_iff] at hc
  refine ⟨by rw [List.length_map];exact hc.1,fun y hy=>?_⟩
  obtain ⟨w,hw,rfl⟩:=List.mem_map.1 hy
  have:=byte_val (List.all_eq_true.1 hc.2 w hw)
  exact ⟨this.1,by omega⟩
theorem parse_ok {s:List Int} (h:(parseR s).2=0):((parseR s).1.length=4 \/ ((parseR s).1.length=16 /\ (parseR s).1.take 12≠preM)) /\ ∀ y∈(parseR s).1,isB y:=by
 unfold parseR at h ⊢
 cases h4:(fourR s).2 with
 | true=>
  rw [cond_true]
  exact ⟨.inl (four_byte h4).1,(four_byte h4).2⟩
 | false=>
  rw [h4,cond_false] at h
  rw [cond_false]
  cases hg:grpR [] s with
  | none=>rw [hg] at h;cases h
  | some x=>
   show ((plainR x).length=4 \/ ((plainR x).length=16 /\ (plainR x).take 12≠preM)) /\ ∀ y∈plainR x,isB y
   have hl:=(grp_16 hg).1
   have hb:=grp_byte hg
   unfold plainR
   cases hp:(decide (12<=x.length)&&(x.take 12==preM)) with
   | true=>
    rw [cond_true]
    exact ⟨.inl (by rw [List.length_drop];omega),fun y hy=>hb y (List.mem_of_mem_drop hy)⟩
   | false=>
    rw [cond_false]
    refine ⟨.inr ⟨hl,fun e=>?_⟩,hb⟩
    rw [e,decide_eq_true (by omega)] at hp
    exact absurd hp (by decide)
theorem print4_head {ip:List Int} (hl:ip.length=4) (hb:∀ y∈ip,isB y):(fourR (printR ip))=(ip,true):=by
 unfold printR
 rw [beq_iff_eq.2 hl,cond_true]
 exact parse_four ip hl hb
theorem print16_four {ip:List Int} (hl:ip.length=16):(fourR (printR ip)).2=false:=by
 have e:printR ip=joinP ((pairsN ip).map hexI) [58]:=by unfold printR;rw [hl];rfl
 cases h:(fourR (printR ip)).2 with
 | false=>rfl
 | true=>exact absurd (by rw [e];exact print16_58 hl) (four_no h (x:=58) (.inl rfl))
theorem parse_print {ip:List Int} (hb:∀ y∈ip,isB y) (h:ip.length=4 \/ (ip.length=16 /\ ip.take 12≠preM)):parseR (printR ip)=(ip,0):=by
 unfold parseR
 rcases h with hl | ⟨hl,hm⟩
 ·rw [print4_head hl hb];rfl
 ·rw [print16_four hl,cond_false]
  have e:printR ip=joinP ((pairsN ip).map hexI) [58]:=by unfold printR;rw [hl];rfl
  rw [e,parse_sixteen ip hl hb]
  show (plainR ip,(0:Int))=_
  unfold plainR
  rw [beq_eq_false_iff_ne.2 hm,Bool.and_false,cond_false]
theorem name_ok {s:List Int} (h:(nameR s).2=0):(nameR s).1=s.map lowI /\ (nameR s).1=s.map lw /\ (∀ c∈s,c=46 \/ sg c≠0) /\ s≠[] /\ s.length<=253:=by
 have h1:(nameR s).1=s.map lowI /\ (∀ c∈s,c=46 \/ sg c≠0) /\ s≠[]:=by
  unfold nameR at h ⊢
  cases hd:decide (253 < s.length) with
  | true=>rw [hd] at h;cases h
  | false=>
   rw [hd,cond_false] at h
   rw [cond_false]
   cases hn:nameP [] 0 s with
   | none=>rw [hn] at h;cases h
   | some b=>
    obtain ⟨e,g,n⟩:=name_some s _ _ _ hn
    exact ⟨by show b=_;rw [e,List.nil_append],g,n rfl⟩
 have h2:(nameR s).1=s.map lw /\ s.length<=253:=by
  rw [nameR_eq] at h ⊢
  unfold nameQ at h ⊢
  cases hc:(decide (1<=s.length)&&decide (s.length<=253)&&(splitI (s.map lw) 46).all labB) with
  | false=>rw [hc] at h;cases h
  | true=>
   simp only [Bool.and_eq_true,decide_eq_true_eq] at hc
   exact ⟨rfl,hc.1.2⟩
 exact ⟨h1.1,h2.1,h1.2.1,h1.2.2,h2.2⟩
theorem lw_lw (c:Int):lw (lw c)=lw c:=by
 unfold lw
 by_cases h:65<=c /\ c<=90
 ·rw [if_pos h,if_neg (by omega)]
 ·rw [if_neg h,if_neg h]
theorem map_lw (s:List Int):(s.map lw).map lw=s.map lw:=by
 rw [List.map_map]
 exact List.map_congr_left fun c _=>lw_lw c
theorem name_low {s:List Int} (h:(nameR s).2=0):nameR (s.map lw)=(s.map lw,0):=by
 rw [nameR_eq] at h ⊢
 unfold nameQ at h ⊢
 rw [map_lw,List.length_map]
 cases hc:(decide (1<=s.length)&&decide (s.length<=253)&&(splitI (s.map lw) 46).all labB) with
 | false=>rw [hc] at h;cases h
 | true=>rfl
theorem low_chars {s:List Int} (h:∀ c∈s,c=46 \/ sg c≠0):∀ c∈s.map lowI,c=45 \/ c=46 \/ c=95 \/ (48<=c /\ c<=57) \/ (97<=c /\ c<=122):=fun c hc=>by
 obtain ⟨d,hd,rfl⟩:=List.mem_map.1 hc
 have:=h d hd
 unfold lowI
 by_cases h46:d=46
 ·subst h46;right;left;rfl
 ·rw [beq_eq_false_iff_ne.2 h46,cond_false]
  have hs:=this.resolve_left h46
  rw [sg_spec] at hs ⊢
  by_cases h1:65<=d /\ d<=90
  ·rw [if_pos h1];omega
  ·rw [if_neg h1] at hs ⊢
   by_cases h2:(97<=d /\ d<=122) \/ (48<=d /\ d<=57) \/ d=45 \/ d=95
   ·rw [if_pos h2];omega
   ·rw [if_neg h2] at hs;exact absurd rfl hs
theorem join_snoc (c:Int) (q:List Int):∀ (p:List Int) (r:List (List Int)),joinP ((p::r)++[q]) [c]=joinP (p::r) [c]++c::q
 | p,[]=>by
  show joinP (p::q::[]) [c]=_
  rw [joinP_two,joinP_one,joinP_one]
 | p,p2::r=>by
  show joinP (p::p2::(r++[q])) [c]=_
  have ih:=join_snoc c q p2 r
  rw [List.cons_append] at ih
  rw [joinP_two,ih,joinP_two,List.append_assoc]
  rfl
theorem take_snoc (H:List (List Int)) {i:Nat} (h:i < H.length):H.take (i+1)=H.take i++[H[i]]:=by
 rw [List.take_add_one,List.getElem?_eq_getElem h];rfl
theorem or256 {n d:Int} (h0:0<=n) (h1:n < 256) (h2:0<=d) (h3:d < 256):bits .or .i64 (IntKind.i64.wrap ((IntKind.i64.wrap n)*2 ^ 8)) (IntKind.i64.wrap d)=n*256+d:=by
 have e:∀ m:Int,m*2 ^ 8=m*256:=fun _=>rfl
 rw [wrap_in (x:=n) (by omega) (by omega),wrap_in (x:=d) (by omega) (by omega),e,wrap_in (by omega) (by omega)]
 have e40:(2:Int) ^ 40=1099511627776:=by decide
 exact bits_join .i64 40 (by decide) (fun n h0 h1=>wrap_in (by omega) (by omega)) 8 (n*256) d (by omega) (by omega) (by omega) h2 h3 (by omega)
theorem getD_mem {s:List Int} {i:Nat} (h:i < s.length):s.getD i 0∈s:=by
 rw [List.getD_eq_getElem?_getD,List.getElem?_eq_getElem h];exact List.getElem_mem h
theorem getI_getD {s:List Int} {i:Nat} (h:i < s.length):getI s (i:Int)=some (s.getD i 0):=getI_nat (by rw [List.getD_eq_getElem?_getD,List.getElem?_eq_getElem h];rfl)
theorem take_more {s:List Int} {i:Nat} (h:i < s.length):s.take (i+1)=s.take i++[s.getD i 0]:=by
 rw [List.take_add_one,List.getD_eq_getElem?_getD,List.getElem?_eq_getElem h];rfl
def fD (x:Int):List Int:=dgs x.toNat
theorem fD_len {x:Int} (hx:isB x):(fD x).length<=20:=by
 have:=dgs_len 2 x.toNat (by obtain ⟨_,_⟩:=hx;simp;omega)
 unfold fD;omega
theorem itoa_byte {x:Int} (hx:isB x):F_strconv_Itoa (IntKind.i64.wrap x)=some (fD x):=by
 obtain ⟨h0,h1⟩:=hx
 rw [wrap_in (by omega) (by omega)]
 unfold F_strconv_Itoa fD
 obtain ⟨n,rfl⟩:=Int.eq_ofNat_of_zero_le h0
 rw [itoa_dgs,Int.toNat_natCast]
theorem dot_loop (s:List Int) (hl:s.length=4) (hb:∀ x∈s,isB x):∀ (k i:Nat),i+k=4->loopC (F_addr_Print_L7 s) ((s.take i).map fD,(i:Int))=some (.inr (s.map fD))
 | 0,i,h=>by
  refine loop_inl ?_
  unfold F_addr_Print_L7
  dsimp only
  rw [decide_eq_false (show ¬ (i:Int) < 4 by omega),cond_false,List.take_of_length_le (by omega)]
 | k+1,i,h=>by
  have hi:i < s.length:=by omega
  refine loop_inr (s':=((s.take (i+1)).map fD,((i+1:Nat):Int))) ?_ (dot_loop s hl hb k (i+1) (by omega))
  unfold F_addr_Print_L7 chk
  dsimp only
  have hln:((s.take i).map fD).length<=4:=by rw [List.length_map,List.length_take];omega
  rw [decide_eq_true (show (i:Int) < 4 by omega),cond_true,getI_getD hi,Option.bind_some,itoa_byte (hb _ (getD_mem hi)),Option.bind_some,chk16 (by show _+1<=_;omega),cond_true,wrap_in (by omega) (by omega),take_more hi,List.map_append]
  rfl
theorem pairs_snoc:∀ (l:List Int) (a b:Int),l.length % 2=0->pairsN (l++[a,b])=pairsN l++[(a*256+b).toNat]
 | [],_,_,_=>rfl
 | [_],_,_,h=>by simp at h
 | x::y::l,a,b,h=>by
  show (x*256+y).toNat::pairsN (l++[a,b])=(x*256+y).toNat::(pairsN l++_)
  rw [pairs_snoc l a b (by simp at h;omega)]
theorem pairs_take {s:List Int} {i:Nat} (h:2*i+1 < s.length):pairsN (s.take (2*(i+1)))=pairsN (s.take (2*i))++[(s.getD (2*i) 0*256+s.getD (2*i+1) 0).toNat]:=by
 rw [show 2*(i+1)=2*i+1+1 by omega,take_more h,take_more (by omega),List.append_assoc]
 exact pairs_snoc _ _ _ (by rw [List.length_take];omega)
theorem fmt_pair {a b:Int} (ha:isB a) (hb:isB b):F_strconv_FormatInt (bits .or .i64 (IntKind.i64.wrap ((IntKind.i64.wrap a)*2 ^ 8)) (IntKind.i64.wrap b)) 16=some (hexI (a*256+b).toNat):=by
 obtain ⟨a0,a1⟩:=ha
 obtain ⟨b0,b1⟩:=hb
 rw [or256 a0 a1 b0 b1]
 unfold F_strconv_FormatInt
 rw [decide_eq_true (show 0<=a*256+b by omega),decide_eq_true (show a*256+b < 65536 by omega)]
 rfl
theorem col_loop (s:List Int) (hl:s.length=16) (hb:∀ x∈s,isB x):∀ (k i:Nat),i+k=8->loopC (F_addr_Print_L16 s) ((pairsN (s.take (2*i))).map hexI,(i:Int))=some (.inr ((pairsN s).map hexI))
 | 0,i,h=>by
  refine loop_inl ?_
  unfold F_addr_Print_L16
  dsimp only
  rw [decide_eq_false (show ¬ (i:Int) < 8 by omega),cond_false,List.take_of_length_le (by omega)]
 | k+1,i,h=>by
  have h1:2*i < s.length:=by omega
  have h2:2*i+1 < s.length:=by omega
  refine loop_inr (s':=((pairsN (s.take (2*(i+1)))).map hexI,((i+1:Nat):Int))) ?_ (col_loop s hl hb k (i+1) (by omega))
  unfold F_addr_Print_L16 chk
  dsimp only
  have hln:((pairsN (s.take (2*i))).map hexI).length<=16:=by rw [List.length_map,pairs_len,List.length_take];omega
  rw [decide_eq_true (show (i:Int) < 8 by omega),cond_true,wrap_in (x:=2*(i:Int)) (by omega) (by omega),show 2*(i:Int)=((2*i:Nat):Int) by omega,getI_getD h1,Option.bind_some,wrap_in (x:=((2*i:Nat):Int)+1) (by omega) (by omega),show ((2*i:Nat):Int)+1=((2*i+1:Nat):Int) by omega,getI_getD h2,Option.bind_some,fmt_pair (hb _ (getD_mem h1)) (hb _ (getD_mem h2)),Option.bind_some,chk16 (by show _+1<=_;omega),cond_true,wrap_in (by omega) (by omega),pairs_take h2,List.map_append]
  rfl
theorem hexs_len {s:List Int} (hb:∀ x∈s,isB x):∀ q∈(pairsN s).map hexI,q.length<=20:=fun q hq=>by
 obtain ⟨n,hn,rfl⟩:=List.mem_map.1 hq
 have hlt:=pairs_lt s hb n hn
 have:=hex_len 3 n (by simpa using hlt) hlt
 omega
theorem decs_len {s:List Int} (hb:∀ x∈s,isB x):∀ q∈s.map fD,q.length<=20:=fun q hq=>by
 obtain ⟨n,hn,rfl⟩:=List.mem_map.1 hq
 exact fD_len (hb n hn)
theorem print_len {s:List Int} (hb:∀ x∈s,isB x):(printR s).length<=168:=by
 unfold printR
 cases h4:s.length==4 with
 | true=>
  rw [cond_true]
  have:=join_len 46 (s.map fD) (decs_len hb)
  have e:=beq_iff_eq.1 h4
  rw [List.length_map] at this
  show (joinP (s.map fD) [46]).length<=168
  omega
 | false=>
  rw [cond_false]
  cases h16:s.length==16 with
  | true=>
   rw [cond_true]
   have:=join_len 58 ((pairsN s).map hexI) (hexs_len hb)
   have e:=beq_iff_eq.1 h16
   rw [List.length_map,pairs_len] at this
   omega
  | false=>simp
theorem join_eq {l:List (List Int)} {c:Int} (h1:l.length<=1000) (h2:(joinP l [c]).length<=100000):F_strings_Join l [c]=some (joinP l [c]):=by
 unfold F_strings_Join
 rw [Nat.ble_eq_true_of_le (by omega),Nat.ble_eq_true_of_le (by omega)];rfl
theorem Print_eq (s:List Int) (hb:∀ x∈s,isB x):F_addr_Print s=some (printR s):=by
 have hlen:=print_len hb
 unfold F_addr_Print
 by_cases h4:s.length=4
 ·have e:printR s=joinP (s.map fD) [46]:=by unfold printR;rw [h4];rfl
  rw [e] at hlen ⊢
  have:=dot_loop s h4 hb 4 0 rfl
  rw [beq_iff_eq.2 (show (s.length:Int)=4 by omega),cond_true]
  refine join_inl ?_
  refine (join_inr (s:=s.map fD) this).trans ?_
  unfold F_addr_Print_J5
  dsimp only
  rw [join_eq (by rw [List.length_map];omega) (by omega)];rfl
 ·rw [beq_eq_false_iff_ne.2 (show ¬ (s.length:Int)=4 by omega),cond_false]
  by_cases h16:s.length=16
  ·have e:printR s=joinP ((pairsN s).map hexI) [58]:=by unfold printR;rw [h16];rfl
   rw [e] at hlen ⊢
   have:=col_loop s h16 hb 8 0 rfl
   rw [beq_iff_eq.2 (show (s.length:Int)=16 by omega),cond_true]
   refine join_inl ?_
   refine (join_inr (s:=(pairsN s).map hexI) this).trans ?_
   unfold F_addr_Print_J14
   dsimp only
   rw [join_eq (by rw [List.length_map,pairs_len];omega) (by omega)];rfl
  ·have e:printR s=[]:=by unfold printR;rw [beq_eq_false_iff_ne.2 h4,beq_eq_false_iff_ne.2 h16];rfl
   rw [e,beq_eq_false_iff_ne.2 (show ¬ (s.length:Int)=16 by omega)];rfl
theorem and15i {n:Nat} (h:n < 65536):bits .and .i64 (n:Int) 15=((n % 16:Nat):Int):=by
 have e40:(2:Int) ^ 40=1099511627776:=by decide
 have:=bits_mask .i64 40 (by decide) (fun m h0 h1=>wrap_in (by omega) (by omega)) 4 (by decide) (n:Int) (by omega) (by omega)
 have e:(2:Int) ^ 4 - 1=15:=rfl
 rw [e] at this
 rw [this]
 have e:(2:Int) ^ 4=16:=rfl
 rw [e];omega
theorem tab_cut:(List.range 16).all (fun q=>cutI ([48,49,50,51,52,53,54,55,56,57,97,98,99,100,101,102]:List Int) (q:Int) (IntKind.i64.wrap ((q:Int)+1))==some [hexd q])=true:=by kernel_rfl
theorem hex_fuel:∀ (k n:Nat),n < 16 ^ (k+1)->n < 65536->F_wlvref15_hex_fuel (k+1) (n:Int)=some (hexI n):=fun k=>by
 induction k with
 | zero=>
  intro n h h2
  have h16:n < 16:=by simpa using h
  show F_wlvref15_hex_step _ _=_
  unfold F_wlvref15_hex_step
  have hc:=beq_iff_eq.1 (List.all_eq_true.1 tab_cut (n % 16) (List.mem_range.2 (by omega)))
  rw [and15i h2,hc,Option.bind_some,decide_eq_true (show (n:Int) < 16 by omega),cond_true,hexI_one h16,Nat.mod_eq_of_lt h16]
 | succ k ih=>
  intro n h h2
  show F_wlvref15_hex_step _ _=_
  unfold F_wlvref15_hex_step
  have hc:=beq_iff_eq.1 (List.all_eq_true.1 tab_cut (n % 16) (List.mem_range.2 (by omega)))
  rw [and15i h2,hc,Option.bind_some]
  by_cases h16:n < 16
  ·rw [decide_eq_true (show (n:Int) < 16 by omega),cond_true,hexI_one h16,Nat.mod_eq_of_lt h16]
  ·have hq:n / 16 < 16 ^ (k+1):=by rw [Nat.pow_succ] at h;omega
   have hl:=hex_len 3 (n / 16) (by simp;omega) (by omega)
   have e4:(2:Int) ^ 4=16:=rfl
   rw [decide_eq_false (show ¬ (n:Int) < 16 by omega),cond_false,e4,Int.fdiv_eq_ediv_of_nonneg _ (by decide),show (n:Int) / 16=((n / 16:Nat):Int) by omega,ih (n / 16) hq (by omega),Option.bind_some]
   unfold chk
   rw [Nat.ble_eq_true_of_le (by unfold maxLen;show _+1<=_;omega),cond_true,hexI_step h16 h2]
theorem hex_eq {a b:Int} (ha:isB a) (hb:isB b):F_wlvref15_hex (bits .or .i64 (IntKind.i64.wrap ((IntKind.i64.wrap a)*2 ^ 8)) (IntKind.i64.wrap b))=some (hexI (a*256+b).toNat):=by
  obtain ⟨a0,a1⟩:=ha
  obtain ⟨b0,b1⟩:=hb
  rw [or256 a0 a1 b0 b1]
  have := hex_fuel 63 (a * 256 + b).toNat (by have : (16 : Nat) ^ 64 = 115792089237316195423570985008687907853269984665640564039457584007913129639936 := by decide
                                              omega) (by omega)
  rw [Int.toNat_of_nonneg (by omega)] at this
  exact this
theorem dec_byte {x:Int} (hx:isB x):F_wlvref_Dec (IntKind.i64.wrap x)=some (fD x):=by
 obtain ⟨h0,h1⟩:=hx
 rw [wrap_in (by omega) (by omega),Dec_eq x (by omega)];rfl
theorem join_addc (c:Int) (H:List (List Int)) {i:Nat} (h:i < H.length) (h0:0 < i):joinP (H.take (i+1)) [c]=joinP (H.take i) [c]++c::H[i]:=by
 rw [take_snoc H h]
 cases hq:H.take i with
 | nil=>
  have:(H.take i).length=i:=by rw [List.length_take];omega
  rw [hq] at this;simp at this;omega
 | cons p r=>exact join_snoc c _ p r
theorem join_first (c:Int) (H:List (List Int)) (h:0 < H.length):joinP (H.take 1) [c]=H[0]:=by
 rw [take_snoc H h]
 exact joinP_one _ _
theorem join_take_len (c:Int) {H:List (List Int)} (h:∀ q∈H,q.length<=20) (i:Nat) (hl:H.length<=16):(joinP (H.take i) [c]).length<=336:=by
 have:=join_len c (H.take i) fun q hq=>h q (List.mem_of_mem_take hq)
 rw [List.length_take] at this
 omega
theorem rdot_loop (s:List Int) (hl:s.length=4) (hb:∀ x∈s,isB x):∀ (k i:Nat),i+k=4->loopC (F_wlvref15_Print_L6 s) (joinP ((s.map fD).take i) [46],(i:Int))=some (.inr (joinP (s.map fD) [46]))
 | 0,i,h=>by
  refine loop_inl ?_
  unfold F_wlvref15_Print_L6
  dsimp only
  rw [decide_eq_false (show ¬ (i:Int) < 4 by omega),cond_false,List.take_of_length_le (by rw [List.length_map];omega)]
 | k+1,i,h=>by
  have hi:i < s.length:=by omega
  have hH:i < (s.map fD).length:=by rw [List.length_map];exact hi
  have hat:(s.map fD)[i]=fD (s.getD i 0):=by
   rw [List.getElem_map,List.getD_eq_getElem?_getD,List.getElem?_eq_getElem hi];rfl
  have hfl:=fD_len (hb _ (getD_mem hi))
  have hjl:=join_take_len 46 (decs_len hb) i (by rw [List.length_map];omega)
  refine loop_inr (s':=(joinP ((s.map fD).take (i+1)) [46],((i+1:Nat):Int))) ?_ (rdot_loop s hl hb k (i+1) (by omega))
  unfold F_wlvref15_Print_L6 chk
  dsimp only
  rw [decide_eq_true (show (i:Int) < 4 by omega),cond_true,getI_getD hi]
  simp only [Option.bind_some]
  rw [dec_byte (hb _ (getD_mem hi))]
  simp only [Option.bind_some]
  have hm:maxLen=9223372036854775807:=rfl
  by_cases h0:0 < i
  ·rw [decide_eq_true (show (i:Int) > 0 by omega),cond_true,Nat.ble_eq_true_of_le (by show _+1<=_;omega),cond_true,Nat.ble_eq_true_of_le (by rw [List.length_append];show _+1+_<=_;omega),cond_true,wrap_in (by omega) (by omega),join_addc 46 _ hH h0,hat,List.append_assoc]
   rfl
  ·have:i=0:=by omega
   subst this
   rw [decide_eq_false (show ¬ ((0:Nat):Int) > 0 by omega),cond_false,Nat.ble_eq_true_of_le (by omega),cond_true,join_first 46 _ hH,hat]
   rfl
theorem rcol_loop (s:List Int) (hl:s.length=16) (hb:∀ x∈s,isB x):∀ (k i:Nat),i+k=8->loopC (F_wlvref15_Print_L14 s) (joinP (((pairsN s).map hexI).take i) [58],((2*i:Nat):Int))=some (.inr (joinP ((pairsN s).map hexI) [58]))
 | 0,i,h=>by
  refine loop_inl ?_
  unfold F_wlvref15_Print_L14
  dsimp only
  rw [decide_eq_false (show ¬ ((2*i:Nat):Int) < 16 by omega),cond_false,List.take_of_length_le (by rw [List.length_map,pairs_len];omega)]
 | k+1,i,h=>by
  have h1:2*i < s.length:=by omega
  have h2:2*i+1 < s.length:=by omega
  have hpl:=pairs_len s
  have hH:i < ((pairsN s).map hexI).length:=by rw [List.length_map];omega
  have hat:((pairsN s).map hexI)[i]=hexI (s.getD (2*i) 0*256+s.getD (2*i+1) 0).toNat:=by
   rw [List.getElem_map]
   congr 1
   have e:pairsN s=pairsN (s.take (2*(i+1)))++pairsN (s.drop (2*(i+1))):=by
    have key:∀ (n:Nat) (s:List Int),pairsN s=pairsN (s.take (2*n))++pairsN (s.drop (2*n)):=fun n=>by
     induction n with
     | zero=>intro s;rfl
     | succ n ih=>
      intro s
      match s with
      | []=>simp [pairsN]
      | [_]=>simp [pairsN,show 2*(n+1)=2*n+1+1 by omega]
      | x::y::s=>
       rw [show 2*(n+1)=2*n+1+1 by omega]
       show (x*256+y).toNat::pairsN s=(x*256+y).toNat::(pairsN (s.take (2*n))++pairsN (s.drop (2*n)))
       rw [<-ih]
    exact key _ _
   have hl2:(pairsN (s.take (2*i))).length=i:=by rw [pairs_len,List.length_take];omega
   have:(pairsN s)[i]? = some (s.getD (2*i) 0*256+s.getD (2*i+1) 0).toNat:=by
    rw [e,pairs_take h2,List.append_assoc,List.getElem?_append_right (by omega),hl2,Nat.sub_self];rfl
   rw [List.getElem?_eq_getElem (by omega)] at this
   injection this
  have hfl:=hexs_len hb _ (List.getElem_mem hH)
  rw [hat] at hfl
  have hjl:=join_take_len 58 (hexs_len hb) i (by rw [List.length_map];omega)
  refine loop_inr (s':=(joinP (((pairsN s).map hexI).take (i+1)) [58],((2*(i+1):Nat):Int))) ?_ (rcol_loop s hl hb k (i+1) (by omega))
  unfold F_wlvref15_Print_L14 chk
  dsimp only
  rw [decide_eq_true (show ((2*i:Nat):Int) < 16 by omega),cond_true,getI_getD h1,wrap_in (x:=((2*i:Nat):Int)+1) (by omega) (by omega),show ((2*i:Nat):Int)+1=((2*i+1:Nat):Int) by omega,getI_getD h2]
  simp only [Option.bind_some]
  rw [hex_eq (hb _ (getD_mem h1)) (hb _ (getD_mem h2))]
  simp only [Option.bind_some]
  have hm:maxLen=9223372036854775807:=rfl
  rw [wrap_in (x:=((2*i:Nat):Int)+2) (by omega) (by omega),show ((2*i:Nat):Int)+2=((2*(i+1):Nat):Int) by omega]
  by_cases h0:0 < i
  ·rw [decide_eq_true (show ((2*i:Nat):Int) > 0 by omega),cond_true,Nat.ble_eq_true_of_le (by show _+1<=_;omega),cond_true,Nat.ble_eq_true_of_le (by rw [List.length_append];show _+1+_<=_;omega),cond_true,join_addc 58 _ hH h0,hat,List.append_assoc]
   rfl
  ·have:i=0:=by omega
   subst this
   rw [decide_eq_false (show ¬ ((2*0:Nat):Int) > 0 by omega),cond_false,Nat.ble_eq_true_of_le (by omega),cond_true,join_first 58 _ hH,hat]
   rfl
theorem refPrint_eq (s:List Int) (hb:∀ x∈s,isB x):F_wlvref15_Print s=some (printR s):=by
 unfold F_wlvref15_Print
 by_cases h4:s.length=4
 ·have e:printR s=joinP (s.map fD) [46]:=by unfold printR;rw [h4];rfl
  rw [e]
  have:=rdot_loop s h4 hb 4 0 rfl
  rw [beq_iff_eq.2 (show (s.length:Int)=4 by omega),cond_true]
  exact (join_inr this).trans rfl
 ·rw [beq_eq_false_iff_ne.2 (show ¬ (s.length:Int)=4 by omega),cond_false]
  by_cases h16:s.length=16
  ·have e:printR s=joinP ((pairsN s).map hexI) [58]:=by unfold printR;rw [h16];rfl
   rw [e]
   have:=rcol_loop s h16 hb 8 0 rfl
   rw [beq_iff_eq.2 (show (s.length:Int)=16 by omega),cond_true]
   exact (join_inr this).trans rfl
  ·have e:printR s=[]:=by unfold printR;rw [beq_eq_false_iff_ne.2 h4,beq_eq_false_iff_ne.2 h16];rfl
   rw [e,beq_eq_false_iff_ne.2 (show ¬ (s.length:Int)=16 by omega)];rfl
theorem itoa_int {b:Int} (h:0<=b):F_strconv_Itoa b=some (dgs b.toNat):=by
 unfold F_strconv_Itoa
 obtain ⟨n,rfl⟩:=Int.eq_ofNat_of_zero_le h
 rw [itoa_dgs,Int.toNat_natCast]
theorem dgs_20 {b:Int} (h0:0<=b) (h:b<=9223372036854775807):(dgs b.toNat).length<=20:=by
  exact Nat.le_trans (dgs_len 19 b.toNat (by have : (10 : Nat) ^ 20 = 100000000000000000000 := by decide
                                             omega)) (by omega)
def printN (s:List Int) (b:Int):List Int:=printR s++47::dgs b.toNat
theorem PrintNet_eq (s:List Int) (b:Int) (hb:∀ x∈s,isB x) (h0:0<=b) (h:b<=9223372036854775807):F_addr_PrintNet s b=some (printN s b):=by
 have hl:=print_len hb
 have hd:=dgs_20 h0 h
 have hm:maxLen=9223372036854775807:=rfl
 unfold F_addr_PrintNet chk
 rw [Print_eq s hb,Option.bind_some,itoa_int h0,Nat.ble_eq_true_of_le (by show _+1<=_;omega),cond_true,Option.bind_some,Nat.ble_eq_true_of_le (by rw [List.length_append];show _+1+_<=_;omega),cond_true,List.append_assoc]
 rfl
theorem refPrintNet_eq (s:List Int) (b:Int) (hb:∀ x∈s,isB x) (h0:0<=b) (h:b<=9223372036854775807):F_wlvref15_PrintNet s b=some (printN s b):=by
 have hl:=print_len hb
 have hd:=dgs_20 h0 h
 have hm:maxLen=9223372036854775807:=rfl
 unfold F_wlvref15_PrintNet chk
 rw [refPrint_eq s hb,Option.bind_some,Dec_eq b h,Nat.ble_eq_true_of_le (by show _+1<=_;omega),cond_true,Option.bind_some,Nat.ble_eq_true_of_le (by rw [List.length_append];show _+1+_<=_;omega),cond_true,List.append_assoc]
 rfl
theorem bit_eq (s:List Int) (j:Nat) (hj:j < 8*s.length) (h16:s.length<=16) (hs:∀ x∈s,isB x):F_wlvref15_bit s (j:Int)=some (bitAt s j):=by
 have hi8:j / 8 < s.length:=by omega
 have hdv:Int.tdiv (j:Int) 8=((j / 8:Nat):Int):=by rw [Int.tdiv_eq_ediv_of_nonneg (by omega)];omega
 have hmd:Int.tmod (j:Int) 8=((j % 8:Nat):Int):=by rw [Int.tmod_eq_emod_of_nonneg (by omega)];omega
 have hu:IntKind.u64.wrap (IntKind.i64.wrap (7 - ((j % 8:Nat):Int)))=((7 - j % 8:Nat):Int):=by
  rw [wrap_in (by omega) (by omega)]
  show (7 - ((j % 8:Nat):Int)) % 18446744073709551616=_
  omega
 obtain ⟨x0,x1⟩:=hs _ (getD_mem hi8)
 unfold F_wlvref15_bit chk
 rw [hdv,hmd,wrap_in (x:=((j / 8:Nat):Int)) (by omega) (by omega),getI_getD hi8,Option.bind_some,hu,decide_eq_true (show (0:Int)<=((7 - j % 8:Nat):Int) by omega),cond_true,Int.toNat_natCast,Nat.min_eq_left (show 7 - j % 8<=64 by omega),wrap_in (x:=s.getD (j / 8) 0) (by omega) (by omega)]
 unfold bitAt bitI
 have hp:(0:Int) < 2 ^ (7 - j % 8):=Int.pow_pos (by decide)
 rw [Int.fdiv_eq_ediv_of_nonneg _ (Int.le_of_lt hp)]
 have q0:0<=s.getD (j / 8) 0 / 2 ^ (7 - j % 8):=Int.ediv_nonneg x0 (Int.le_of_lt hp)
 have q1:s.getD (j / 8) 0 / 2 ^ (7 - j % 8)<=s.getD (j / 8) 0:=Int.ediv_le_self _ x0
 generalize s.getD (j / 8) 0 / 2 ^ (7 - j % 8)=q at q0 q1 ⊢
 have e40:(2:Int) ^ 40=1099511627776:=by decide
 rw [show (1:Int)=2 ^ 1 - 1 from rfl,bits_mask .i64 40 (by decide) (fun m h0 h1=>wrap_in (by omega) (by omega)) 1 (by decide) q q0 (by omega)]
 rfl
theorem tab_keep:(List.range 256).all (fun x=>(List.range 9).all fun k=>decide (0<=keepB (x:Int) k)&&decide (keepB (x:Int) k < 256)&&(List.range 8).all fun j=>bitI (keepB (x:Int) k) j==(if j < k then bitI (x:Int) j else 0))=true:=by kernel_rfl
theorem keep_spec {x:Int} (hx:isB x) {k:Nat} (hk:k<=8):isB (keepB x k) /\ ∀ j,j < 8->bitI (keepB x k) j=if j < k then bitI x j else 0:=by
 have h:=List.all_eq_true.1 (List.all_eq_true.1 tab_keep x.toNat (List.mem_range.2 (by obtain ⟨_,_⟩:=hx;omega))) k (List.mem_range.2 (by omega))
 have e:((x.toNat:Nat):Int)=x:=Int.toNat_of_nonneg hx.1
 rw [e] at h
 simp only [Bool.and_eq_true,decide_eq_true_eq] at h
 exact ⟨⟨h.1.1,h.1.2⟩,fun j hj=>beq_iff_eq.1 (List.all_eq_true.1 h.2 j (List.mem_range.2 hj))⟩
theorem keptL_at (b:Int):∀ (s:List Int) (i n:Nat),n < s.length->(keptL b i s).getD n 0=keepB (s.getD n 0) (nbits b (i+n))
 | [],_,n,h=>by simp at h
 | x::s,i,0,_=>rfl
 | x::s,i,n+1,h=>by
  show (keptL b (i+1) s).getD n 0=keepB (s.getD n 0) _
  rw [keptL_at b s (i+1) n (by simpa using h),show i+1+n=i+(n+1) by omega]
theorem keptL_byte (b:Int):∀ (s:List Int) (i:Nat),(∀ x∈s,isB x) -> ∀ y∈keptL b i s,isB y
 | [],_,_,y,h=>by cases h
 | x::s,i,hs,y,h=>by
  have h:y∈keepB x (nbits b i)::keptL b (i+1) s:=h
  rcases List.mem_cons.1 h with rfl | h
  ·exact (keep_spec (hs x (by simp)) (by unfold nbits;omega)).1
  ·exact keptL_byte b s (i+1) (fun z hz=>hs z (by simp [hz])) y h
theorem getD_byte {s:List Int} (hs:∀ x∈s,isB x) (n:Nat):isB (s.getD n 0):=by
 rw [List.getD_eq_getElem?_getD]
 by_cases h:n < s.length
 ·rw [List.getElem?_eq_getElem h]
  exact hs _ (List.getElem_mem h)
 ·rw [List.getElem?_eq_none (by omega)]
  exact ⟨by decide,by decide⟩
theorem bit_kept (b:Int) (s:List Int) (hs:∀ x∈s,isB x) (j:Nat) (hj:j < 8*s.length):bitAt (keptL b 0 s) j=if (j:Int) < b then bitAt s j else 0:=by
 unfold bitAt
 rw [keptL_at b s 0 (j / 8) (by omega),(keep_spec (getD_byte hs (j / 8)) (show nbits b (0+j / 8)<=8 by unfold nbits;omega)).2 (j % 8) (by omega)]
 by_cases h:(j:Int) < b
 ·rw [if_pos h,if_pos (by unfold nbits;omega)]
 ·rw [if_neg h,if_neg (by unfold nbits;omega)]
theorem keep_all {x:Int} (k:Nat) (hk:k=8):keepB x k=x:=by
 subst hk
 unfold keepB
 rw [show (2:Int) ^ (8 - 8)=1 from rfl]
 omega
theorem kept_full (b:Int):∀ (s:List Int) (i:Nat),8*((i+s.length:Nat):Int)<=b->keptL b i s=s
 | [],_,_=>rfl
 | x::s,i,h=>by
  show keepB x (nbits b i)::keptL b (i+1) s=_
  rw [kept_full b s (i+1) (by simp at h ⊢;omega),keep_all _ (by unfold nbits;simp at h;omega)]
theorem bits_ext (s t:List Int) (hl:s.length=t.length) (hs:∀ x∈s,isB x) (ht:∀ x∈t,isB x) (h:∀ j:Nat,j < 8*s.length->bitAt s j=bitAt t j):s=t:=by
 have k:=(kept_iff (8*(s.length:Int)) s t 0 hl hs ht).2 fun j hj _=>h j hj
 rwa [kept_full _ s 0 (by omega),kept_full _ t 0 (by omega)] at k
theorem kept_fix (b:Int) (s:List Int) (hs:∀ x∈s,isB x):keptL b 0 s=s ↔ ∀ j:Nat,j < 8*s.length->b<=(j:Int)->bitAt s j=0:=by
 have hl:=keptL_len b s 0
 constructor
 ·intro h j hj hb
  have:=bit_kept b s hs j hj
  rw [h,if_neg (by omega)] at this
  exact this
 ·intro h
  refine bits_ext _ _ hl (keptL_byte b s 0 hs) hs fun j hj=>?_
  rw [hl] at hj
  rw [bit_kept b s hs j hj]
  by_cases hb:(j:Int) < b
  ·rw [if_pos hb]
  ·rw [if_neg hb,h j hj (by omega)]
theorem idxI_none (c:Int):∀ (s:List Int),(∀ x∈s,x≠c)->idxI s c = -1
 | [],_=>rfl
 | x::s,h=>by
  unfold idxI
  rw [beq_eq_false_iff_ne.2 (h x (by simp)),cond_false,idxI_none c s fun y hy=>h y (by simp [hy])];rfl
theorem idxI_at (c:Int) (t:List Int):∀ (h:List Int),(∀ x∈h,x≠c)->idxI (h++c::t) c=h.length
 | [],_=>by
  show cond (c==c) 0 _=_
  rw [beq_self_eq_true];rfl
 | x::h,hn=>by
  have ih:=idxI_at c t h fun y hy=>hn y (by simp [hy])
  show cond (x==c) 0 (cond (idxI (h++c::t) c == -1) (-1) (idxI (h++c::t) c+1))=_
  rw [beq_eq_false_iff_ne.2 (hn x (by simp)),cond_false,ih,beq_eq_false_iff_ne.2 (show (h.length:Int) ≠ -1 by omega),cond_false,List.length_cons]
  omega
theorem Cut_none (s:List Int) (c:Int) (h:∀ x∈s,x≠c):F_strings_Cut s [c]=some (s,[],false):=by
 unfold F_strings_Cut F_internal_stringslite_Cut
 show ((some (idxI s c)).bind _).bind _=_
 rw [idxI_none c s h];rfl
theorem Cut_at (h t:List Int) (c:Int) (hn:∀ x∈h,x≠c) (hl:(h++c::t).length<=1000000):F_strings_Cut (h++c::t) [c]=some (h,t,true):=by
 have hlen:(h++c::t).length=h.length+(t.length+1):=by rw [List.length_append,List.length_cons]
 unfold F_strings_Cut F_internal_stringslite_Cut
 show ((some (idxI (h++c::t) c)).bind _).bind _=_
 rw [idxI_at c t h hn,Option.bind_some,decide_eq_true (show (h.length:Int) >= 0 by omega),cond_true]
 have c1:=cutI_nat (s:=h++c::t) (a:=0) (b:=h.length) (by omega) (by omega)
 have c1:cutI (h++c::t) 0 (h.length:Int)=some h:=by
  have e0:((0:Nat):Int)=0:=rfl
  rw [e0] at c1
  rw [c1,List.take_left];rfl
 have c2:cutI (h++c::t) (IntKind.i64.wrap ((h.length:Int)+(([c]:List Int).length:Int))) ((h++c::t).length:Int)=some t:=by
  have e1:(([c]:List Int).length:Int)=1:=rfl
  rw [e1,wrap_in (by omega) (by omega)]
  have:=cutI_nat (s:=h++c::t) (a:=h.length+1) (b:=(h++c::t).length) (by omega) (by omega)
  rw [show ((h.length+1:Nat):Int)=(h.length:Int)+1 by omega] at this
  rw [this,List.take_length,List.drop_append,List.drop_of_length_le (by omega),show h.length+1 - h.length=1 by omega]
  rfl
 rw [c1,Option.bind_some,c2];rfl
theorem first_cut (c:Int):∀ (s:List Int),(∀ x∈s,x≠c) \/ ∃ h t,s=h++c::t /\ ∀ x∈h,x≠c
  | []=>.inl (by simp)
  | x::s=>by
    by_cases hx:x=c
    · subst hx
      exact .inr ⟨[],s,rfl,by simp⟩
    · rcases first_cut c s with h | ⟨h,t,rfl,hn⟩
      · exact .inl fun y hy => by
          rcases List.mem_cons.1 hy with rfl | hy
          · exact hx
          · exact h y hy
      · exact .inr ⟨x :: h, t, rfl, fun y hy => by
          rcases List.mem_cons.1 hy with rfl | hy
          · exact hx
          · exact hn y hy⟩
theorem parse_two (s:List Int) (h:(parseR s).2≠0):parseR s=([],2):=by
 unfold parseR at h ⊢
 cases h4:(fourR s).2 with
 | true=>rw [h4] at h;exact absurd rfl h
 | false=>
  rw [h4,cond_false] at h
  rw [cond_false]
  cases hg:grpR [] s with
  | none=>rfl
  | some x=>rw [hg] at h;exact absurd rfl h
noncomputable def netR (h:List Int) (t:Option (List Int)):List Int×Int×Int:=
 cond ((parseR h).2 != 0) ([],0,2) (match t with
  | none=>((parseR h).1,8*((parseR h).1.length:Int),0)
  | some t=>cond (canonB t&&decide (valI t<=8*((parseR h).1.length:Int))&&(keptL (valI t) 0 (parseR h).1==(parseR h).1)) ((parseR h).1,valI t,0) ([],0,2))
theorem netR_no {h:List Int} {t:Option (List Int)} (hb:(parseR h).2≠0):netR h t=([],0,2):=by
 unfold netR;rw [bne_iff_ne.2 hb];rfl
theorem ParseNet_none (s:List Int) (hn:∀ x∈s,x≠47) (hs:s.length<=1000000):F_addr_ParseNet s=some (netR s none):=by
 unfold F_addr_ParseNet
 rw [Cut_none s 47 hn,Option.bind_some]
 dsimp only
 rw [Parse_eq s hs,Option.bind_some]
 by_cases hb:(parseR s).2=0
 ·obtain ⟨hl,_⟩:=parse_ok hb
  have hl16:(parseR s).1.length<=16:=by rcases hl with h | h <;> omega
  unfold netR
  rw [show ((parseR s).2 != 0)=false by rw [hb];rfl,cond_false,cond_false,cond_false,wrap_in (by omega) (by omega)]
 ·rw [netR_no hb,parse_two s hb];rfl
theorem ParseNet_at (h t:List Int) (hn:∀ x∈h,x≠47) (hl:(h++47::t).length<=1000000):F_addr_ParseNet (h++47::t)=some (netR h (some t)):=by
 have hlen:(h++47::t).length=h.length+(t.length+1):=by rw [List.length_append,List.length_cons]
 unfold F_addr_ParseNet
 rw [Cut_at h t 47 hn hl,Option.bind_some]
 dsimp only
 rw [Parse_eq h (by omega),Option.bind_some]
 by_cases hb:(parseR h).2=0
 ·obtain ⟨hp,hby⟩:=parse_ok hb
  have hl16:(parseR h).1.length<=16:=by rcases hp with h | h <;> omega
  unfold netR
  rw [show ((parseR h).2 != 0)=false by rw [hb];rfl,cond_false,cond_true,cond_false,wrap_in (by omega) (by omega)]
  obtain ⟨x,hx,hv⟩:=decimal_eq t (8*((parseR h).1.length:Int)) (by omega) (by omega)
  rw [hx,Option.bind_some]
  dsimp only
  cases hc:(canonB t&&decide (valI t<=8*((parseR h).1.length:Int))) with
  | false=>rfl
  | true=>
   rw [Bool.and_eq_true,decide_eq_true_iff] at hc
   have h0:=valI_nn _ t rfl (by have:=hc.1;unfold canonB at this;exact (Bool.and_eq_true _ _ ▸ this).1)
   rw [hv hc.1 hc.2,kept_eq _ _ (by omega) (by omega) hby,Option.bind_some,Bool.not_true,cond_false,Bool.true_and]
   cases (keptL (valI t) 0 (parseR h).1==(parseR h).1) <;> rfl
 ·rw [netR_no hb,parse_two h hb];rfl
theorem fix_loop (s:List Int) (e:Int) (b:Nat) (h16:s.length<=16) (hs:∀ x∈s,isB x) (x:List Int×Int×List Int×Int) :
    ∀ k i:Nat,i+k=8*s.length->b<=i->(∀ j,b<=j->j < i->bitAt s j=0)->loopC (F_wlvref15_ParseNet_L15 (s,e)) ((i:Int),x)=some (cond (keptL (b:Int) 0 s==s) (.inr x) (.inl ([],0,2)))
  | 0,i,h,hb,hz=>by
    refine loop_inl ?_
    unfold F_wlvref15_ParseNet_L15
    dsimp only
    have e:(keptL (b:Int) 0 s==s)=true:=by
      rw [beq_iff_eq,kept_fix (b:Int) s hs]
      intro j hj hbj
      exact hz j (by omega) (by omega)
    rw [wrap_in (by omega) (by omega),decide_eq_false (show ¬ (i:Int) < 8*(s.length:Int) by omega),cond_false,e];rfl
  | k+1,i,h,hb,hz=>by
    by_cases he:bitAt s i=0
    · refine loop_inr (s' := (((i + 1 : Nat) : Int), x)) ?_ (fix_loop s e b h16 hs x k (i + 1) (by omega) (by omega) fun j h1 hj => by
        rcases Nat.lt_or_eq_of_le (Nat.le_of_lt_succ hj) with h | rfl
        · exact hz j h1 h
        · exact he)
      unfold F_wlvref15_ParseNet_L15
      dsimp only
      rw [wrap_in (x:=8*(s.length:Int)) (by omega) (by omega),decide_eq_true (show (i:Int) < 8*(s.length:Int) by omega),cond_true,bit_eq s i (by omega) h16 hs,Option.bind_some,he,bne_self_eq_false,cond_false,wrap_in (by omega) (by omega)]
      rfl
    · refine loop_inl ?_
      unfold F_wlvref15_ParseNet_L15
      dsimp only
      have e:(keptL (b:Int) 0 s==s)=false:=by
        rw [beq_eq_false_iff_ne,ne_eq,kept_fix (b:Int) s hs]
        intro h
        exact he (h i (by omega) (by omega))
      rw [wrap_in (x:=8*(s.length:Int)) (by omega) (by omega),decide_eq_true (show (i:Int) < 8*(s.length:Int) by omega),cond_true,bit_eq s i (by omega) h16 hs,Option.bind_some,bne_iff_ne.2 he,cond_true,e]
      rfl
theorem fix_join (s:List Int) (e b:Int) (h0:0<=b) (hb:b<=8*(s.length:Int)) (h16:s.length<=16) (hs:∀ x∈s,isB x) :
  joinC (S:=List Int×Int×List Int×Int) (R:=List Int×Int×Int) (loopC (S:=Int×List Int×Int×List Int×Int) (R:=(List Int×Int×Int)⊕(List Int×Int×List Int×Int)) (F_wlvref15_ParseNet_L15 (s,e)) (b,([]:List Int),0,s,b)) (F_wlvref15_ParseNet_J13)=some (cond (keptL b 0 s==s) (s,b,0) ([],0,2)):=by
 obtain ⟨n,rfl⟩:=Int.eq_ofNat_of_zero_le h0
 have:=fix_loop s e n h16 hs (([]:List Int),0,s,(n:Int)) (8*s.length - n) n (by omega) (Nat.le_refl _) fun j h1 h2=>by omega
 cases hq:keptL (n:Int) 0 s==s with
 | true=>rw [hq,cond_true] at this;exact (join_inr this).trans rfl
 | false=>rw [hq,cond_false] at this;exact join_inl this
theorem refNet_none (s:List Int) (hn:∀ x∈s,x≠47) (hs:s.length<=1000000):F_wlvref15_ParseNet s=some (netR s none):=by
 unfold F_wlvref15_ParseNet
 rw [Split_eq s 47 hs,Option.bind_some,splitI_miss hn]
 show ((some s).bind _)=_
 rw [Option.bind_some,refParse_eq s hs,Option.bind_some]
 have e2:decide ((([s]:List (List Int)).length:Int) > 2)=false:=rfl
 have e3:((([s]:List (List Int)).length:Int)==2)=false:=rfl
 rw [e2,e3,Bool.or_false,cond_false]
 by_cases hb:(parseR s).2=0
 ·obtain ⟨hp,hby⟩:=parse_ok hb
  have hl16:(parseR s).1.length<=16:=by rcases hp with h | h <;> omega
  unfold netR
  rw [show ((parseR s).2 != 0)=false by rw [hb];rfl,cond_false,cond_false,wrap_in (by omega) (by omega)]
  have:=fix_join (parseR s).1 (parseR s).2 (8*((parseR s).1.length:Int)) (by omega) (by omega) hl16 hby
  rw [kept_full _ _ 0 (by omega),beq_self_eq_true,cond_true] at this
  exact this
 ·rw [netR_no hb,bne_iff_ne.2 hb];rfl
theorem refNet_at (h t:List Int) (hn:∀ x∈h,x≠47) (hl:(h++47::t).length<=1000000):F_wlvref15_ParseNet (h++47::t)=some (netR h (some t)):=by
 have hlen:(h++47::t).length=h.length+(t.length+1):=by rw [List.length_append,List.length_cons]
 unfold F_wlvref15_ParseNet
 rw [Split_eq _ 47 hl,Option.bind_some,splitI_hit hn]
 show ((some h).bind _)=_
 rw [Option.bind_some,refParse_eq h (by omega),Option.bind_some]
 by_cases hb:(parseR h).2=0
 ·obtain ⟨hp,hby⟩:=parse_ok hb
  have hl16:(parseR h).1.length<=16:=by rcases hp with h | h <;> omega
  rcases first_cut 47 t with ht | ⟨t1,t2,rfl,ht1⟩
  ·rw [splitI_miss ht]
   have e2:decide ((([h,t]:List (List Int)).length:Int) > 2)=false:=rfl
   have e3:((([h,t]:List (List Int)).length:Int)==2)=true:=rfl
   rw [e2,e3,Bool.or_false,cond_true]
   unfold netR
   rw [show ((parseR h).2 != 0)=false by rw [hb];rfl,cond_false,cond_false,wrap_in (by omega) (by omega)]
   show ((some t).bind _)=_
   rw [Option.bind_some]
   obtain ⟨x,hx,hv⟩:=Num_eq t 0 (8*((parseR h).1.length:Int))
   rw [hx,Option.bind_some]
   dsimp only
   cases hc:(canonB t&&decide (valI t<=8*((parseR h).1.length:Int))) with
   | false=>
    have:(canonB t&&decide (t.length<=17)&&(decide (0<=valI t)&&decide (valI t<=8*((parseR h).1.length:Int))))=false:=by
     rw [Bool.and_eq_false_iff] at hc
     rcases hc with hc | hc
     ·rw [hc];rfl
     ·rw [hc,Bool.and_false,Bool.and_false]
    rw [this];rfl
   | true=>
    rw [Bool.and_eq_true,decide_eq_true_iff] at hc
    have h0:=valI_nn _ t rfl (by have:=hc.1;unfold canonB at this;exact (Bool.and_eq_true _ _ ▸ this).1)
    have h17:=canon_17 hc.1 (by omega)
    rw [hv hc.1 h17,hc.1,decide_eq_true h17,decide_eq_true h0,decide_eq_true hc.2]
    show joinC _ _=_
    rw [fix_join (parseR h).1 (parseR h).2 (valI t) h0 hc.2 hl16 hby]
    rfl
  ·have hx:(47:Int)∈t1++47::t2:=by simp
   have hlen3:2 < (h::splitI (t1++47::t2) 47).length:=by
    have hne:2<=(splitI (t1++47::t2) 47).length:=by
     rw [splitI_hit ht1,List.length_cons]
     have:=List.length_pos_iff.2 (splitI_ne t2 47)
     omega
    rw [List.length_cons];omega
   rw [decide_eq_true (show ((h::splitI (t1++47::t2) 47).length:Int) > 2 by omega),Bool.or_true,cond_true]
   have hc:canonB (t1++47::t2)=false:=by
    unfold canonB
    have:(t1++47::t2).all isDig=false:=by
     rw [List.all_eq_false]
     exact ⟨47,hx,by decide⟩
    rw [this];rfl
   unfold netR
   rw [show ((parseR h).2 != 0)=false by rw [hb];rfl,cond_false]
   dsimp only
   rw [hc];rfl
 ·rw [netR_no hb,bne_iff_ne.2 hb];rfl
theorem join_memb (c:Int):∀ (l:List (List Int)) (x:Int),x∈joinP l [c]->x=c \/ ∃ q∈l,x∈q
 | [],x,h=>by cases h
 | [p],x,h=>by rw [joinP_one] at h;exact .inr ⟨p,by simp,h⟩
 | p::q::r,x,h=>by
  rw [joinP_two] at h
  rcases List.mem_append.1 h with h | h
  ·exact .inr ⟨p,by simp,h⟩
  ·rcases List.mem_cons.1 h with h | h
   ·exact .inl h
   ·rcases join_memb c (q::r) x h with h | ⟨w,hw,h⟩
    ·exact .inl h
    ·exact .inr ⟨w,List.mem_cons_of_mem _ hw,h⟩
theorem print_no47 {s:List Int} (hb:∀ x∈s,isB x):∀ x∈printR s,x≠47:=fun x hx=>by
 unfold printR at hx
 cases h4:s.length==4 with
 | true=>
  rw [h4,cond_true] at hx
  rcases join_memb 46 _ x hx with h | ⟨q,hq,h⟩
  ·omega
  ·obtain ⟨y,_,rfl⟩:=List.mem_map.1 hq
   have:=dgs_dig h
   omega
 | false=>
  rw [h4,cond_false] at hx
  cases h16:s.length==16 with
  | true=>
   rw [h16,cond_true] at hx
   rcases join_memb 58 _ x hx with h | ⟨q,hq,h⟩
   ·omega
   ·obtain ⟨n,hn,rfl⟩:=List.mem_map.1 hq
    have hlt:=pairs_lt s hb n hn
    have:=hex_mem 3 n (by simpa using hlt) hlt x h
    omega
  | false=>rw [h16] at hx;cases hx
def cutP:List Int->List Int×Bool
 | []=>([],false)
 | c::r=>cond (c==46) (r,true) (c::r,false)
theorem cutp_eq (s:List Int) (hs:s.length<=1000000):F_strings_CutPrefix s [46]=some (cutP s):=by
 unfold F_strings_CutPrefix F_internal_stringslite_CutPrefix F_internal_stringslite_HasPrefix
 cases s with
 | nil=>rfl
 | cons c r=>
  rw [List.length_cons] at hs
  rw [show (([46]:List Int).length:Int)=1 from rfl,decide_eq_true (show ((c::r).length:Int) >= 1 by rw [List.length_cons];omega),cond_true]
  rw [show cutI (c::r) 0 1=some [c] by unfold cutI;rw [decide_eq_true (by omega),decide_eq_true (by omega),decide_eq_true (by rw [List.length_cons];omega)];rfl,Option.bind_some]
  rw [show ([c]==([46]:List Int))=(c==46) by
   by_cases h:c=46
   ·subst h;rfl
   ·rw [beq_eq_false_iff_ne.2 h,beq_eq_false_iff_ne.2 (by intro e;injection e with e;exact h e)]]
  have e2:cutI (c::r) 1 ((c::r).length:Int)=some r:=by
   unfold cutI
   rw [decide_eq_true (by omega),decide_eq_true (by rw [List.length_cons];omega),decide_eq_true (Int.le_refl _)]
   show some (((c::r).take ((c::r).length:Int).toNat).drop 1)=_
   rw [Int.toNat_natCast,List.take_length];rfl
  rw [e2]
  show _=some (cond (c==46) (r,true) (c::r,false))
  cases c==46 <;> rfl
structure NetOk (ip:List Int) (b:Int):Prop where
 byte:∀ y∈ip,isB y
 len:ip.length=4 \/ (ip.length=16 /\ ip.take 12≠preM)
 lo:0<=b
 hi:b<=8*(ip.length:Int)
 kept:keptL b 0 ip=ip
theorem keptL_all (ip:List Int) (b:Int) (hb:∀ y∈ip,isB y) (h:b=8*(ip.length:Int)):keptL b 0 ip=ip:=by
 have key:∀ (l:List Int) (i:Nat),(∀ y∈l,isB y)->8*((i+l.length:Nat):Int)<=b->keptL b i l=l:=by
  intro l
  induction l with
  | nil=>intro i _ _;rfl
  | cons x l ih=>
   intro i hy hle
   rw [List.length_cons] at hle
   show keepB x (nbits b i)::keptL b (i+1) l=_
   rw [ih (i+1) (fun y h=>hy y (by simp [h])) (by omega)]
   have hx:=hy x (by simp)
   have hn:nbits b i=8:=by
    unfold nbits
    omega
   rw [hn]
   unfold keepB
   simp
 exact key ip 0 hb (by omega)
theorem net_total (s:List Int) (hs:s.length<=100000):∃ ip b e,F_addr_ParseNet s=some (ip,b,e) /\ (e=0->NetOk ip b) /\ (e=0 \/ (parseR s).2≠0 \/ 47∈s):=by
  rcases first_cut 47 s with h | ⟨h,t,rfl,hn⟩
  · refine ⟨(netR s none).1,(netR s none).2.1,(netR s none).2.2,ParseNet_none s h (by omega),?_⟩
    by_cases hp:(parseR s).2=0
    · have e : netR s none = ((parseR s).1, 8 * ((parseR s).1.length : Int), 0) := by
        unfold netR
        rw [show ((parseR s).2 != 0)=false by rw [hp];rfl,cond_false]
      obtain ⟨q1,q2⟩:=parse_ok hp
      rw [e]
      exact ⟨fun _=>⟨q2,q1,by show (0:Int)<=8*_;omega,Int.le_refl _,keptL_all _ _ q2 rfl⟩,.inl rfl⟩
    · rw [netR_no hp]
      exact ⟨fun e=>absurd e (by decide),.inr (.inl hp)⟩
  · refine ⟨(netR h (some t)).1,(netR h (some t)).2.1,(netR h (some t)).2.2,ParseNet_at h t hn (by omega),?_⟩
    refine ⟨fun he=>?_,.inr (.inr (by simp))⟩
    by_cases hp:(parseR h).2=0
    · obtain ⟨q1,q2⟩:=parse_ok hp
      have e:netR h (some t)=cond (canonB t&&decide (valI t<=8*((parseR h).1.length:Int))&&(keptL (valI t) 0 (parseR h).1==(parseR h).1)) ((parseR h).1,valI t,0) ([],0,2):=by
        unfold netR
        rw [show ((parseR h).2 != 0)=false by rw [hp];rfl,cond_false]
      rw [e] at he ⊢
      cases hc:(canonB t&&decide (valI t<=8*((parseR h).1.length:Int))&&(keptL (valI t) 0 (parseR h).1==(parseR h).1)) with
      | false=>rw [hc] at he;cases he
      | true=>
        rw [cond_true]
        simp only [Bool.and_eq_true,decide_eq_true_eq] at hc
        obtain ⟨⟨c1,c2⟩,c3⟩:=hc
        exact ⟨q2,q1,valI_nn _ t rfl (by unfold canonB at c1;exact (Bool.and_eq_true _ _ ▸ c1).1),c2,eq_of_beq c3⟩
    · rw [netR_no hp] at he;cases he
theorem net_back {ip:List Int} {b:Int} (h:NetOk ip b):F_addr_PrintNet ip b=some (printN ip b) /\ F_addr_ParseNet (printN ip b)=some (ip,b,0) /\ (printN ip b).length<=200:=by
 have hl:=print_len h.byte
 have h16:(ip.length:Int)<=16:=by rcases h.len with q | q <;> omega
 have hhi:=h.hi
 have hd:=dgs_20 (b:=b) h.lo (by omega)
 refine ⟨PrintNet_eq _ _ h.byte h.lo (by omega),?_,by unfold printN;rw [List.length_append,List.length_cons];omega⟩
 unfold printN
 rw [ParseNet_at _ _ (print_no47 h.byte) (by rw [List.length_append,List.length_cons];omega)]
 unfold netR
 rw [parse_print h.byte h.len]
 dsimp only
 rw [canon_dgs,dgs_val h.lo,h.kept,beq_self_eq_true,decide_eq_true h.hi]
 rfl
theorem printR_chars {s:List Int} (hb:∀ x∈s,isB x):∀ x∈printR s,x=46 \/ x=58 \/ (48<=x /\ x<=57) \/ (97<=x /\ x<=102):=fun x hx=>by
 unfold printR at hx
 cases h4:s.length==4 with
 | true=>
  rw [h4,cond_true] at hx
  rcases join_memb 46 _ x hx with h | ⟨q,hq,hx⟩
  ·exact .inl h
  ·obtain ⟨y,_,rfl⟩:=List.mem_map.1 hq
   have:=dgs_dig hx
   omega
 | false=>
  rw [h4,cond_false] at hx
  cases h6:s.length==16 with
  | true=>
   rw [h6,cond_true] at hx
   rcases join_memb 58 _ x hx with h | ⟨q,hq,hx⟩
   ·exact .inr (.inl h)
   ·obtain ⟨n,hn,rfl⟩:=List.mem_map.1 hq
    have hn:=pairs_lt s hb n hn
    have:=hex_mem 3 n (by simpa using hn) hn x hx
    omega
  | false=>rw [h6,cond_false] at hx;cases hx
theorem printN_chars {ip:List Int} {b:Int} (h:NetOk ip b):∀ x∈printN ip b,x=46 \/ x=47 \/ x=58 \/ (48<=x /\ x<=57) \/ (97<=x /\ x<=102):=fun x hx=>by
 unfold printN at hx
 rcases List.mem_append.1 hx with hx | hx
 ·have:=printR_chars h.byte x hx
  omega
 ·rcases List.mem_cons.1 hx with rfl | hx
  ·exact .inr (.inl rfl)
  ·have:=dgs_dig hx
   omega
theorem printN_head {ip:List Int} {b:Int} (h:NetOk ip b):∃ c r,printN ip b=c::r /\ c≠46 /\ c≠42:=by
 have hb:=h.byte
 have key:∃ q:List Int,∃ l:List (List Int),∃ d:Int,q≠[] /\ printR ip=joinP (q::l) [d] /\ ∀ x∈q,(48<=x /\ x<=57) \/ (97<=x /\ x<=102):=by
  rcases h.len with hl | ⟨hl,_⟩
  ·match ip,hl with
   | x::r,hl=>
    refine ⟨dgs x.toNat,r.map fun x=>dgs x.toNat,46,(fun e=>by have h:=canon_dgs x.toNat;rw [e] at h;cases h),?_,fun y hy=>.inl (dgs_dig hy)⟩
    unfold printR
    rw [show ((x::r).length==4)=true from beq_iff_eq.2 hl]
    rfl
  ·match ip,hl,hb with
   | x::y::r,hl,hb=>
    have hp:pairsN (x::y::r)=(x*256+y).toNat::pairsN r:=rfl
    have hm:=group_part hb (hexI (x*256+y).toNat) (by rw [hp];simp)
    refine ⟨hexI (x*256+y).toNat,(pairsN r).map hexI,58,hm.1,?_,fun z hz=>?_⟩
    ·unfold printR
     rw [show ((x::y::r).length==4)=false from by rw [hl];rfl,show ((x::y::r).length==16)=true from beq_iff_eq.2 hl,hp]
     rfl
    ·have hn:=pairs_lt _ hb (x*256+y).toNat (by rw [hp];simp)
     have:=hex_mem 3 _ (by simpa using hn) hn z hz
     omega
 obtain ⟨q,l,d,hq,e,hc⟩:=key
 match q,hq with
 | c::r,_=>
  have hj:=join_head (c::r) l d (by intro e;cases e)
  rw [<-e] at hj
  have hcc:=hc c (by simp)
  cases hpr:printR ip with
  | nil=>rw [hpr] at hj;cases hj
  | cons a t=>
   rw [hpr] at hj
   injection hj with hj
   subst hj
   exact ⟨a,t++47::dgs b.toNat,by unfold printN;rw [hpr];rfl,by omega,by omega⟩
theorem parse_low {s:List Int} (h:(nameR s).2=0) (hp:(parseR s).2≠0):(parseR (s.map lw)).2≠0:=fun e=>by
 obtain ⟨n1,n2,n3,n4,n5⟩:=name_ok h
 have hch:=low_chars n3
 rw [<-n1,n2] at hch
 unfold parseR at e
 cases h4:(fourR (s.map lw)).2 with
 | true=>
  have hc:=four_chars h4
  have hs:s.map lw=s:=by
   refine (List.map_congr_left fun c hcm=>?_).trans (List.map_id s)
   have:=hc (lw c) (List.mem_map.2 ⟨c,hcm,rfl⟩)
   show lw c=c
   unfold lw at this ⊢
   by_cases hq:65<=c /\ c<=90
   ·rw [if_pos hq] at this
    rcases this with h | h
    ·omega
    ·have:=dig_of h
     omega
   ·rw [if_neg hq]
  rw [hs] at h4
  apply hp
  unfold parseR
  rw [h4];rfl
 | false=>
  rw [h4,cond_false] at e
  cases hg:grpR [] (s.map lw) with
  | none=>rw [hg] at e;exact absurd e (by decide)
  | some x=>
   have:=hch 58 (grp_58 hg)
   omega
theorem name_bad {s:List Int} (h:(nameR s).2≠0):nameR s=([],2):=by
 unfold nameR at h ⊢
 cases hd:decide (253 < s.length) with
 | true=>rfl
 | false=>
  rw [hd,cond_false] at h
  rw [cond_false]
  cases hn:nameP [] 0 s with
  | none=>rfl
  | some b=>rw [hn] at h;exact absurd rfl h
theorem name_chars {s:List Int} (h:nameR s=(s,0)):(∀ c∈s,c=45 \/ c=46 \/ c=95 \/ (48<=c /\ c<=57) \/ (97<=c /\ c<=122)) /\ s≠[] /\ s.length<=253:=by
 have h0:(nameR s).2=0:=by rw [h]
 obtain ⟨n1,n2,n3,n4,n5⟩:=name_ok h0
 refine ⟨?_,n4,n5⟩
 have:=low_chars n3
 rw [<-n1,h] at this
 exact this
theorem name_fix {s:List Int} (h:(nameR s).2=0):nameR s=(s.map lw,0) /\ nameR (s.map lw)=(s.map lw,0):=by
 obtain ⟨n1,n2,n3,n4,n5⟩:=name_ok h
 exact ⟨Prod.ext n2 h,name_low h⟩
theorem name_46 (r:List Int):nameR (46::r)=([],2):=by
 refine name_bad fun h=>?_
 unfold nameR at h
 cases hd:decide (253 < (46::r:List Int).length) with
 | true=>
  rw [hd] at h
  have h:(2:Int)=0:=h
  omega
 | false=>
  rw [hd,cond_false] at h
  have h:(2:Int)=0:=h
  omega
inductive PatOk:Int->List Int->List Int->Int->Prop
 | any:PatOk 0 [] [] 0
 | suffix (m:List Int) (h:nameR m=(m,0)):PatOk 2 (46::m) [] 0
 | within (ip:List Int) (b:Int) (h:NetOk ip b):PatOk 3 [] ip b
 | just (m:List Int) (h:nameR m=(m,0)) (hp:(parseR m).2≠0):PatOk 1 m [] 0
theorem pat_total (s:List Int) (hs:s.length<=20000):∃ k h ip b ok,F_conf_pattern s=some (false,k,h,ip,b,0,0,ok) /\ (ok=true->PatOk k h ip b):=by
 unfold F_conf_pattern
 cases h42:s==([42]:List Int) with
 | true=>exact ⟨_,_,_,_,_,rfl,fun _=>.any⟩
 | false=>
  rw [cond_false,cutp_eq s (by omega),Option.bind_some]
  obtain ⟨ip,b,e,hn,h0,h1⟩:=net_total s (by omega)
  have tailE:∃ k h ip' b' ok,((F_addr_ParseNet s).bind fun x4=>cond (x4.2.2==0) (some ((false,3,([]:List Int),x4.1,x4.2.1,0,0,true):Bool×Int×List Int×List Int×Int×Int×Int×Bool)) ((F_host_Name s).bind fun x5=>some (false,1,x5.1,([]:List Int),0,0,0,(x5.2==0))))=some (false,k,h,ip',b',0,0,ok) /\ (ok=true->PatOk k h ip' b'):=by
   rw [hn,Option.bind_some]
   dsimp only
   cases he:e==0 with
   | true=>exact ⟨_,_,_,_,_,rfl,fun _=>.within _ _ (h0 (eq_of_beq he))⟩
   | false=>
    rw [cond_false,name_eq,Option.bind_some]
    refine ⟨_,_,_,_,_,rfl,fun hk=>?_⟩
    have hk:=eq_of_beq hk
    obtain ⟨f1,f2⟩:=name_fix hk
    rw [f1]
    have hp:(parseR s).2≠0:=by
     rcases h1 with h | h | h
     ·rw [h] at he;cases he
     ·exact h
     ·obtain ⟨_,_,n3,_,_⟩:=name_ok hk
      exfalso
      rcases n3 47 h with h | h
      ·exact absurd h (by decide)
      ·exact h (by rw [sg_spec];decide)
    exact .just _ f2 (parse_low hk hp)
  cases hcp:(cutP s).2 with
  | false=>rw [cond_false];exact tailE
  | true=>
   obtain ⟨r,rfl⟩:∃ r,s=46::r:=by
    match s,hcp with
    | c::r,hcp=>
     cases hc:c==46 with
     | true=>exact ⟨r,by rw [eq_of_beq hc]⟩
     | false=>
      have hcp:(cond (c==46) (r,true) (c::r,false)).2=true:=hcp
      rw [hc] at hcp
      cases hcp
   rw [cond_true,show (cutP (46::r)).1=r from rfl,name_eq,Option.bind_some]
   cases h2:(nameR r).2==0 with
   | false=>rw [cond_false];exact tailE
   | true=>
    obtain ⟨f1,f2⟩:=name_fix (eq_of_beq h2)
    have hl:=(name_chars f2).2.2
    have hm:maxLen=9223372036854775807:=rfl
    rw [cond_true,f1]
    unfold chk
    rw [Nat.ble_eq_true_of_le (by show 1+(r.map lw).length<=maxLen;omega),cond_true]
    exact ⟨_,_,_,_,_,rfl,fun _=>.suffix _ f2⟩
def patT (k:Int) (h ip:List Int) (b:Int):List Int:=cond (k==0) [42] (cond (k==3) (printN ip b) h)
theorem pat_back {k:Int} {m ip:List Int} {b:Int} (hk:PatOk k m ip b):F_conf_pattern (patT k m ip b)=some (false,k,m,ip,b,0,0,true) /\ (∀ c∈patT k m ip b,c≠32) /\ (patT k m ip b).length<=300:=by
 cases hk with
 | any=>exact ⟨rfl,by decide,by decide⟩
 | suffix m h=>
  obtain ⟨n1,n2,n3⟩:=name_chars h
  refine ⟨?_,fun c hc=>?_,?_⟩
  ·show F_conf_pattern (46::m)=_
   unfold F_conf_pattern
   rw [show (46::m==([42]:List Int))=false from beq_eq_false_iff_ne.2 (by intro e;injection e with e;exact absurd e (by decide)),cond_false,cutp_eq _ (by rw [List.length_cons];omega),Option.bind_some]
   show (F_host_Name m).bind _=_
   rw [name_eq,h,Option.bind_some]
   have hm:maxLen=9223372036854775807:=rfl
   unfold chk
   rw [Nat.ble_eq_true_of_le (by show 1+m.length<=maxLen;omega)]
   rfl
  ·have hc:c∈46::m:=hc
   rcases List.mem_cons.1 hc with rfl | hc
   ·decide
   ·have:=n1 c hc
    omega
  ·show (46::m).length<=300
   rw [List.length_cons];omega
 | within ip b h=>
  obtain ⟨b1,b2,b3⟩:=net_back h
  obtain ⟨c,r,e,g1,g2⟩:=printN_head h
  refine ⟨?_,fun c hc=>?_,by show (printN ip b).length<=300;omega⟩
  ·show F_conf_pattern (printN ip b)=_
   unfold F_conf_pattern
   rw [show (printN ip b==([42]:List Int))=false from beq_eq_false_iff_ne.2 (by rw [e];intro q;injection q with q;exact g2 q),cond_false,cutp_eq _ (by omega),Option.bind_some]
   rw [show cutP (printN ip b)=(printN ip b,false) by
    rw [e]
    show cond (c==46) _ _=_
    rw [beq_eq_false_iff_ne.2 g1];rfl]
   dsimp only
   rw [cond_false,b2,Option.bind_some]
   rfl
  ·have:=printN_chars h c hc
   omega
 | just _ h hp=>
  obtain ⟨n1,n2,n3⟩:=name_chars h
  refine ⟨?_,fun c hc=>?_,by show m.length<=300;omega⟩
  ·show F_conf_pattern m=_
   have hne:m≠[42]:=fun e=>by
    have:=n1 42 (by rw [e];simp)
    omega
   have h46:cutP m=(m,false):=by
    match m,h with
    | [],h=>rfl
    | c::r,h=>
     show cond (c==46) _ _=_
     cases hc:c==46 with
     | false=>rfl
     | true=>
      have:=eq_of_beq hc
      subst this
      rw [name_46] at h
      cases h
   unfold F_conf_pattern
   rw [beq_eq_false_iff_ne.2 hne,cond_false,cutp_eq _ (by omega),Option.bind_some,h46]
   dsimp only
   have hno:∀ x∈m,x≠47:=fun x hx=>by have:=n1 x hx;omega
   rw [cond_false,ParseNet_none m hno (by omega),netR_no hp,Option.bind_some]
   show (F_host_Name m).bind _=_
   rw [name_eq,h]
   rfl
  ·have:=n1 c hc
   omega
end Go.Proofs.YtgfmfgombmpodaaGreatDoor
namespace Go.Proofs.YtgfmfgombmpodaaGreatDoor
open Pv Vc
set_option linter.unusedVariables false
theorem number_total (s:List Int) (lo hi:Int) (hs:s.length<=1000000):∃ n ok,F_conf_number s lo hi=some (n,ok) /\ (ok=true->itoaI n=s /\ lo<=n /\ n<=hi):=by
 unfold F_conf_number F_strconv_Atoi
 rw [Nat.ble_eq_true_of_le (by omega),cond_true,Option.bind_some]
 cases h:notB (atoiP s).2 with
 | false=>exact ⟨_,_,rfl,fun e=>by cases e⟩
 | true=>
  rw [cond_true]
  unfold F_strconv_Itoa
  rw [Option.bind_some]
  refine ⟨_,_,rfl,fun e=>?_⟩
  simp only [Bool.and_eq_true,decide_eq_true_eq] at e
  exact ⟨eq_of_beq e.1.1,by omega,by omega⟩
def spanT (f t:Int):List Int:=cond (f==1&&t==65535) [42] (cond (f != t) (itoaI f++([45]++itoaI t)) (itoaI f))
theorem span_total (s:List Int) (hs:s.length<=100000):∃ f t ok,F_conf_span s=some (f,t,ok) /\ (ok=true->1<=f /\ f<=t /\ t<=65535):=by
 unfold F_conf_span
 cases h42:s==([42]:List Int) with
 | true=>exact ⟨_,_,_,rfl,fun _=>by decide⟩
 | false=>
  rw [cond_false]
  rcases first_cut 45 s with h | ⟨h,t,rfl,hn⟩
  ·rw [cutZ_none s 45 h,Option.bind_some]
   dsimp only
   rw [Bool.not_false,cond_true]
   obtain ⟨n,ok,e,hk⟩:=number_total s 1 65535 (by omega)
   rw [e,Option.bind_some,Option.bind_some]
   refine ⟨_,_,_,rfl,fun hh=>?_⟩
   simp only [Bool.and_eq_true,decide_eq_true_eq] at hh
   have:=hk hh.1.1
   omega
  ·have hlen:(h++45::t).length=h.length+(t.length+1):=by rw [List.length_append,List.length_cons]
   rw [Cut_at h t 45 hn (by omega),Option.bind_some]
   dsimp only
   rw [Bool.not_true,cond_false]
   obtain ⟨n,ok,e,hk⟩:=number_total h 1 65535 (by omega)
   obtain ⟨m,ok2,e2,hk2⟩:=number_total t 1 65535 (by omega)
   rw [e,Option.bind_some,e2,Option.bind_some]
   refine ⟨_,_,_,rfl,fun hh=>?_⟩
   simp only [Bool.and_eq_true,decide_eq_true_eq] at hh
   have:=hk hh.1.1
   have:=hk2 hh.1.2
   omega
theorem itoa_dig {z:Int} (h:0<=z):∀ c∈itoaI z,48<=c /\ c<=57:=fun c hc=>by
 obtain ⟨n,rfl⟩:∃ n:Nat,z=(n:Int):=⟨z.toNat,by omega⟩
 rw [itoa_dgs] at hc
 exact dig_ge hc
theorem span_back {f t:Int} (h1:1<=f) (h2:f<=t) (h3:t<=65535):F_conf_span (spanT f t)=some (f,t,true) /\ (∀ c∈spanT f t,c≠32) /\ (spanT f t).length<=300:=by
 have lf:=itoa_ln f (by omega) (by omega)
 have lt:=itoa_ln t (by omega) (by omega)
 have df:=itoa_dig (z:=f) (by omega)
 have dt:=itoa_dig (z:=t) (by omega)
 have n42:∀ l:List Int,(∀ c∈l,45<=c)->(l==([42]:List Int))=false:=fun l hl=>beq_eq_false_iff_ne.2 fun e=>by
  have:=hl 42 (by rw [e];simp)
  omega
 unfold spanT
 cases hs:(f==1&&t==65535) with
 | true=>
  simp only [Bool.and_eq_true,beq_iff_eq] at hs
  obtain ⟨rfl,rfl⟩:=hs
  exact ⟨rfl,by decide,by decide⟩
 | false=>
  rw [cond_false]
  cases hne:f != t with
  | false=>
   have hft:f=t:=by simpa using hne
   subst hft
   rw [cond_false]
   refine ⟨?_,fun c hc=>by have:=df c hc;omega,by omega⟩
   unfold F_conf_span
   rw [n42 _ fun c hc=>by have:=df c hc;omega,cond_false,cutZ_none _ 45 fun x hx=>by have:=df x hx;omega,Option.bind_some]
   dsimp only
   rw [Bool.not_false,cond_true,number_itoa _ _ _ (by omega) (by omega),Option.bind_some,Option.bind_some,decide_eq_true (show f >= 1 by omega),decide_eq_true (show f<=65535 by omega)]
   dsimp only
   rw [decide_eq_true (Int.le_refl f)];rfl
  | true=>
   rw [cond_true]
   refine ⟨?_,fun c hc=>?_,by simp only [List.length_append,List.length_cons,List.length_nil];omega⟩
   ·unfold F_conf_span
    rw [n42 _ fun c hc=>by
     rcases List.mem_append.1 hc with hc | hc
     ·have:=df c hc;omega
     ·rcases List.mem_append.1 hc with hc | hc
      ·rw [List.mem_singleton.1 hc];decide
      ·have:=dt c hc;omega]
    rw [cond_false,show itoaI f++([45]++itoaI t)=itoaI f++45::itoaI t from rfl,Cut_at _ _ 45 (fun x hx=>by have:=df x hx;omega) (by rw [List.length_append,List.length_cons];omega),Option.bind_some]
    dsimp only
    rw [Bool.not_true,cond_false,number_itoa _ _ _ (by omega) (by omega),Option.bind_some,number_itoa _ _ _ (by omega) (by omega),Option.bind_some,decide_eq_true (show f >= 1 by omega),decide_eq_true (show f<=65535 by omega),decide_eq_true (show t >= 1 by omega),decide_eq_true (show t<=65535 by omega)]
    dsimp only
    rw [decide_eq_true h2];rfl
   ·rcases List.mem_append.1 hc with hc | hc
    ·have:=df c hc;omega
    ·rcases List.mem_append.1 hc with hc | hc
     ·rw [List.mem_singleton.1 hc];decide
     ·have:=dt c hc;omega
theorem u8_byte (x:Int):0<=IntKind.u8.wrap x /\ IntKind.u8.wrap x < 256:=by
 show 0<=x % 256 /\ x % 256 < 256
 omega
theorem bytes_run_total (s:List Int) (hs:s.length<=100000):∀ (k:Nat) (l:List Int),2*l.length<=s.length->s.length - 2*l.length<=k->(∀ x∈l,0<=x /\ x < 256) ->
    ∃ r,loopC (F_conf_bytesOf_L4 s) (l,((2*l.length:Nat):Int))=some r /\ (r=.inl ([],false) \/ ∃ l',r=.inr l' /\ l'.length<=100000 /\ ∀ x∈l',0<=x /\ x < 256):=fun k=>by
  induction k with
  | zero=>
    intro l h1 h2 hb
    refine ⟨.inr l,loop_inl ?_,.inr ⟨l,rfl,by omega,hb⟩⟩
    unfold F_conf_bytesOf_L4
    dsimp only
    rw [wrap_in (by omega) (by omega),decide_eq_false (by omega),cond_false]
  | succ k ih=>
    intro l h1 h2 hb
    by_cases hlt:2*l.length+1 < s.length
    · have hcut : ∃ p, cutI s ((2 * l.length : Nat) : Int) (((2 * l.length : Nat) : Int) + 2) = some p /\ p.length = 2 := by
        unfold cutI
        rw [decide_eq_true (by omega),decide_eq_true (by omega),decide_eq_true (by omega),Bool.and_self,Bool.and_self,cond_true]
        exact ⟨_,rfl,by rw [List.length_drop,List.length_take];omega⟩
      obtain ⟨p,hp,hp2⟩:=hcut
      have hpu:F_strconv_ParseUint p 16 8=some (puxP p):=by
        unfold F_strconv_ParseUint
        rw [hp2];rfl
      have hm:maxLen=9223372036854775807:=rfl
      cases hq:(puxP p).2 with
      | true=>
        refine ⟨.inl ([],false),loop_inl ?_,.inl rfl⟩
        unfold F_conf_bytesOf_L4
        dsimp only
        rw [wrap_in (by omega) (by omega),decide_eq_true (by omega),cond_true,wrap_in (by omega) (by omega),hp,Option.bind_some,hpu,Option.bind_some,hq]
        rfl
      | false=>
        obtain ⟨r,h3,h4⟩:=ih (l++[IntKind.u8.wrap (puxP p).1]) (by rw [List.length_append];show 2*(l.length+1)<=_;omega) (by rw [List.length_append];show s.length - 2*(l.length+1)<=k;omega) fun x hx=>by
          rcases List.mem_append.1 hx with h | h
          · exact hb x h
          · rw [List.mem_singleton.1 h];exact u8_byte _
        refine ⟨r,loop_inr ?_ h3,h4⟩
        unfold F_conf_bytesOf_L4
        dsimp only
        rw [wrap_in (by omega) (by omega),decide_eq_true (by omega),cond_true,wrap_in (by omega) (by omega),hp,Option.bind_some,hpu,Option.bind_some,hq,cond_false]
        unfold chk
        rw [decide_eq_true (show (l.length+([IntKind.u8.wrap (puxP p).1]:List Int).length)*1<=140737488355328 by show (l.length+1)*1<=_;omega),decide_eq_true (show l.length+([IntKind.u8.wrap (puxP p).1]:List Int).length<=maxLen by show l.length+1<=_;omega),Bool.and_self,cond_true]
        rw [show ((2*l.length:Nat):Int)+2=((2*(l++[IntKind.u8.wrap (puxP p).1]).length:Nat):Int) by rw [List.length_append];show _=((2*(l.length+1):Nat):Int);omega]
    · refine ⟨.inr l,loop_inl ?_,.inr ⟨l,rfl,by omega,hb⟩⟩
      unfold F_conf_bytesOf_L4
      dsimp only
      rw [wrap_in (by omega) (by omega),decide_eq_false (by omega),cond_false]
theorem bytes_total (s:List Int) (lo hi:Int) (hs:s.length<=100000):∃ l ok,F_conf_bytesOf s lo hi=some (l,ok) /\ (ok=true->(∀ x∈l,0<=x /\ x < 256) /\ lo<=(l.length:Int) /\ (l.length:Int)<=hi):=by
 obtain ⟨r,h1,h2⟩:=bytes_run_total s hs s.length [] (by simp) (by simp) (fun x hx=>by cases hx)
 unfold F_conf_bytesOf
 rw [show loopC (F_conf_bytesOf_L4 s) (([]:List Int),0)=some r from h1]
 rcases h2 with rfl | ⟨l,rfl,hl,hb⟩
 ·exact ⟨_,_,rfl,fun e=>by cases e⟩
 ·show ∃ l' ok,F_conf_bytesOf_J2 s lo hi l=some (l',ok) /\ _
  unfold F_conf_bytesOf_J2
  dsimp only
  rw [chex_eq (by omega),Option.bind_some]
  refine ⟨_,_,rfl,fun e=>?_⟩
  simp only [Bool.and_eq_true,decide_eq_true_eq] at e
  exact ⟨hb,by omega,by omega⟩
theorem count_fl {n:Int} (h:Cnt n):F_tally_count (fl n)=some (n,true):=by
 have ha:=h.abs
 have h0:=h.1
 have h1:=h.2
 have o0:=fl_order (a:=n) (b:=0) ha (by decide)
 have o1:=fl_order (a:=n) (b:=1125899906842624) ha (by decide)
 have oo:=fl_order (a:=n) (b:=n) ha ha
 rw [fl_zero] at o0
 rw [fl_most] at o1
 unfold F_tally_count
 have e0:(fgt .f64 (fl n) 0||feq .f64 (fl n) 0)=true:=by
  unfold fgt feq
  rw [o0]
  rcases Int.lt_or_eq_of_le h0 with q | q
  ·rw [show compare n 0=.gt from by rw [Int.compare_eq_gt];exact q];rfl
  ·rw [<-q];rfl
 have e1:(flt .f64 (fl n) 4832362400168542208||feq .f64 (fl n) 4832362400168542208)=true:=by
  unfold flt feq
  rw [o1]
  rcases Int.lt_or_eq_of_le h1 with q | q
  ·rw [show compare n 1125899906842624=.lt from by rw [Int.compare_eq_lt];exact q];rfl
  ·rw [q];rfl
 have e2:ftoI .f64 .i64 (fl n)=some n:=by
  unfold ftoI
  rw [fl_toInt ha]
  dsimp only
  rw [decide_eq_true (show IntKind.min .i64<=n by show (-9223372036854775808:Int)<=n;omega),decide_eq_true (show n<=IntKind.max .i64 by show n<=(9223372036854775807:Int);omega)]
  rfl
 have e3:feq .f64 (foI .f64 n) (fl n)=true:=by
  show feq .f64 (fl n) (fl n)=true
  unfold feq
  rw [oo]
  have:compare n n=.eq:=by simp
  rw [this];rfl
 rw [e0,e1,e2]
 show some (n,feq .f64 (foI .f64 n) (fl n))=_
 rw [e3]
theorem up_fl {a b:Int} (ha:Cnt a) (hb:Cnt b):F_tally_Up (fl a,fl b)=some a /\ F_tally_Down (fl a,fl b)=some b:=by
 unfold F_tally_Up F_tally_Down F_tally_parts
 rw [count_fl ha,Option.bind_some,count_fl hb]
 exact ⟨rfl,rfl⟩
structure RuleOk (r:RuleD):Prop where
 pat:PatOk r.2.1 r.2.2.1 r.2.2.2.1.1 r.2.2.2.1.2
 lo:1<=r.2.2.2.2.1
 mid:r.2.2.2.2.1<=r.2.2.2.2.2
 hi:r.2.2.2.2.2<=65535
structure UGood (u:UserD):Prop where
 ok:UserOk u
 cnt:∃ a b,Cnt a /\ Cnt b /\ u.2.2.2.1=(fl a,fl b)
 many:u.2.2.2.2.length<=64
 rules:∀ r∈u.2.2.2.2,RuleOk r
structure Good (x:RSt):Prop where
 lim:∀ k,k < 7->limLo k<=x.lim k /\ x.lim k<=limHi k
 few:x.us.length<=16
 each:∀ u∈x.us,UGood u
 uniq:∀ (i j:Nat) (u v:UserD),x.us[i]? = some u->x.us[j]? = some v->u.1=v.1->i=j
theorem usAt_neg:∀ (us:List UserD) (s:List Int),usAt us s < 0 -> ∀ u∈us,u.1≠s
 | [],s,_=>fun u hu=>by cases hu
 | v::us,s,h=>by
  have hin:=usAt_in us s
  have h:cond (v.1==s) 0 (cond (decide (usAt us s = -1)) (-1) (usAt us s+1)) < 0:=h
  cases hv:v.1==s with
  | true=>
   rw [hv] at h
   have h:(0:Int) < 0:=h
   omega
  | false=>
   rw [hv,cond_false] at h
   cases hd:decide (usAt us s = -1) with
   | false=>
    rw [hd,cond_false] at h
    have:=of_decide_eq_false hd
    omega
   | true=>
    intro u hu
    rcases List.mem_cons.1 hu with rfl | hu
    ·exact fun e=>by rw [e,beq_self_eq_true] at hv;cases hv
    ·exact usAt_neg us s (by have:=of_decide_eq_true hd;omega) u hu
theorem usAt_pos:∀ (us:List UserD) (s:List Int),0<=usAt us s -> ∃ u,us[(usAt us s).toNat]? = some u /\ u.1=s
 | [],s,h=>absurd h (by show ¬ (0:Int) <= -1;decide)
 | v::us,s,h=>by
  have hin:=usAt_in us s
  have e:usAt (v::us) s=cond (v.1==s) 0 (cond (decide (usAt us s = -1)) (-1) (usAt us s+1)):=rfl
  rw [e] at h ⊢
  cases hv:v.1==s with
  | true=>exact ⟨v,rfl,eq_of_beq hv⟩
  | false=>
   rw [hv,cond_false] at h
   rw [cond_false]
   cases hd:decide (usAt us s = -1) with
   | true=>
    rw [hd] at h
    have h:(0:Int) <= -1:=h
    omega
   | false=>
    have:=of_decide_eq_false hd
    obtain ⟨u,h1,h2⟩:=usAt_pos us s (by omega)
    rw [cond_false,show (usAt us s+1).toNat=(usAt us s).toNat+1 by omega]
    exact ⟨u,h1,h2⟩
theorem named_true {a:List Int} (h:F_conf_named a=some true):(∀ c∈a,c≠32) /\ a.length<=64:=by
 unfold F_conf_named at h
 injection h with h
 simp only [Bool.and_eq_true] at h
 refine ⟨fun c hc e=>?_,Nat.le_of_ble_eq_true h.1.2⟩
 have:=List.all_eq_true.1 h.2 c hc
 rw [e] at this
 exact absurd this (by decide)
theorem lim_set (x:RSt) (k:Nat) (n:Int) (hk:k < 7) (j:Nat) (hj:j < 7):(x.setLim k n).lim j=if j=k then n else x.lim j:=by
 match k,hk with
 | 0,_ | 1,_ | 2,_ | 3,_ | 4,_ | 5,_ | 6,_=>
  match j,hj with
  | 0,_ | 1,_ | 2,_ | 3,_ | 4,_ | 5,_ | 6,_=>rfl
theorem set_us3 (x:RSt) (k:Nat) (n:Int):(x.setLim k n).us=x.us:=by
 unfold RSt.setLim
 split <;> rfl
theorem limAt_lt {a:List Int} {k:Nat} (h:limAt a=some k):k < 7:=by
 unfold limAt at h
 have:=List.mem_of_find?_eq_some h
 simpa using this
def Res (e:Int):Prop:=0<=e /\ e < 10
theorem limits_total {x:RSt} (hx:Good x) (ws:List (List Int)) (hw:∀ w∈ws,w.length<=100000):∃ x' ok,limitsP x ws=some (x',ok) /\ (ok=true->Good x'):=by
 match ws,hw with
 | [],_=>exact ⟨_,_,rfl,fun e=>by cases e⟩
 | [_],_=>exact ⟨_,_,rfl,fun e=>by cases e⟩
 | _::_::_::_,_=>exact ⟨_,_,rfl,fun e=>by cases e⟩
 | [a,b],hw=>
  show ∃ x' ok,cond (x.told.contains a) (some (x,false)) (match limAt a with
   | none=>some (x,false)
   | some k=>(F_conf_number b (limLo k) (limHi k)).bind fun p=>some (({ x.setLim k p.1 with told:=x.told++[a] }:RSt),p.2))=some (x',ok) /\ _
  cases ht:x.told.contains a with
  | true=>exact ⟨_,_,rfl,fun e=>by cases e⟩
  | false=>
   rw [cond_false]
   cases hk:limAt a with
   | none=>exact ⟨_,_,rfl,fun e=>by cases e⟩
   | some k=>
    have hk7:=limAt_lt hk
    obtain ⟨n,ok,e,hn⟩:=number_total b (limLo k) (limHi k) (by have:=hw b (by simp);omega)
    dsimp only
    rw [e,Option.bind_some]
    refine ⟨_,_,rfl,fun hh=>⟨fun j hj=>?_,?_,?_,?_⟩⟩
    ·show limLo j<=(x.setLim k n).lim j /\ (x.setLim k n).lim j<=limHi j
     rw [lim_set x k n hk7 j hj]
     by_cases hjk:j=k
     ·subst hjk
      rw [if_pos rfl]
      exact (hn hh).2
     ·rw [if_neg hjk];exact hx.lim j hj
    ·show (x.setLim k n).us.length<=16
     rw [set_us3];exact hx.few
    ·show ∀ u∈(x.setLim k n).us,_
     rw [set_us3];exact hx.each
    ·show ∀ (i j:Nat) (u v:UserD),(x.setLim k n).us[i]? = some u->(x.setLim k n).us[j]? = some v->u.1=v.1->i=j
     rw [set_us3];exact hx.uniq
theorem user_total {x:RSt} (hx:Good x) (ws:List (List Int)) (hw:∀ w∈ws,w.length<=100000):∃ x' e,userP x ws=some (x',e) /\ Res e /\ (e=0->Good x'):=by
 have bad:∃ x' e,some (x,(2:Int))=some (x',e) /\ Res e /\ (e=0->Good x'):=⟨x,2,rfl,by unfold Res;omega,fun e=>by cases e⟩
 match ws,hw with
 | [],_=>exact bad
 | [_],_=>exact bad
 | [_,_],_=>exact bad
 | [_,_,_],_=>exact bad
 | [_,_,_,_],_=>exact bad
 | [_,_,_,_,_],_=>exact bad
 | _::_::_::_::_::_::_::_,_=>exact bad
 | [a,b,c,d,e,f],hw=>
  show ∃ x' e',((F_conf_named a).bind fun q=>cond q (cond (decide (0<=usAt x.us a)) (some (x,2)) (
   (F_conf_bytesOf b 1 32).bind fun sa=>(F_conf_bytesOf c 32 32).bind fun di=>(F_conf_number d 1 1000).bind fun n=>(F_conf_number e 0 1125899906842624).bind fun up=>(F_conf_number f 0 1125899906842624).bind fun dn=>userG x a sa di n up dn)) (some (x,2)))=some (x',e') /\ _
  have hnm:∃ q,F_conf_named a=some q:=⟨_,rfl⟩
  obtain ⟨q,hq⟩:=hnm
  rw [hq,Option.bind_some]
  cases q with
  | false=>exact bad
  | true=>
   rw [cond_true]
   cases hat:decide (0<=usAt x.us a) with
   | true=>exact bad
   | false=>
    have hneg:=usAt_neg x.us a (by have:=of_decide_eq_false hat;omega)
    obtain ⟨sa,o1,e1,k1⟩:=bytes_total b 1 32 (by have:=hw b (by simp);omega)
    obtain ⟨di,o2,e2,k2⟩:=bytes_total c 32 32 (by have:=hw c (by simp);omega)
    obtain ⟨n,o3,e3,k3⟩:=number_total d 1 1000 (by have:=hw d (by simp);omega)
    obtain ⟨up,o4,e4,k4⟩:=number_total e 0 1125899906842624 (by have:=hw e (by simp);omega)
    obtain ⟨dn,o5,e5,k5⟩:=number_total f 0 1125899906842624 (by have:=hw f (by simp);omega)
    rw [cond_false,e1,Option.bind_some,e2,Option.bind_some,e3,Option.bind_some,e4,Option.bind_some,e5,Option.bind_some]
    unfold userG
    dsimp only
    cases hc:(o1&&(o2&&(o3&&(o4&&o5)))) with
    | false=>exact bad
    | true=>
     simp only [Bool.and_eq_true] at hc
     obtain ⟨c1,c2,c3,c4,c5⟩:=hc
     obtain ⟨s1,s2,s3⟩:=k1 c1
     obtain ⟨d1,d2,d3⟩:=k2 c2
     obtain ⟨_,n2,n3⟩:=k3 c3
     obtain ⟨_,u2,u3⟩:=k4 c4
     obtain ⟨_,v2,v3⟩:=k5 c5
     rw [cond_true]
     cases h16:Nat.beq x.us.length 16 with
     | true=>exact ⟨_,_,rfl,by unfold Res;omega,fun e=>by cases e⟩
     | false=>
      have hne:x.us.length≠16:=fun e=>by rw [e] at h16;exact absurd h16 (by decide)
      have i1:List.isEmpty sa=false:=by cases sa with | nil=>simp at s2 | cons _ _=>rfl
      have i2:List.isEmpty di=false:=by cases di with | nil=>simp at d2 | cons _ _=>rfl
      have i3:isCnt up=true:=by unfold isCnt;rw [decide_eq_true u2,decide_eq_true u3];rfl
      have i4:isCnt dn=true:=by unfold isCnt;rw [decide_eq_true v2,decide_eq_true v3];rfl
      rw [cond_false,i1,i2,i3,i4]
      obtain ⟨m1,m2⟩:=named_true hq
      refine ⟨_,_,rfl,by unfold Res;omega,fun _=>⟨hx.lim,?_,fun u hu=>?_,fun i j u v hi hj huv=>?_⟩⟩
      ·show (x.us++[_]).length<=16
       have:=hx.few
       rw [List.length_append]
       show x.us.length+1<=16
       omega
      ·have hu:u∈x.us++[(a,(sa,di),n,(fl up,fl dn),[])]:=hu
       rcases List.mem_append.1 hu with hu | hu
       ·exact hx.each u hu
       ·rw [List.mem_singleton.1 hu]
        exact ⟨⟨hq,m1,m2,s1,⟨by show 1<=sa.length;omega,by show sa.length<=32;omega⟩,d1,by show di.length=32;omega,⟨n2,n3⟩⟩,⟨up,dn,⟨u2,u3⟩,⟨v2,v3⟩,rfl⟩,Nat.zero_le _,fun r hr=>by cases hr⟩
      ·have hi:(x.us++[(a,(sa,di),n,(fl up,fl dn),[])])[i]? = some u:=hi
       have hj:(x.us++[(a,(sa,di),n,(fl up,fl dn),[])])[j]? = some v:=hj
       have cls:∀ (i:Nat) (u:UserD),(x.us++[(a,(sa,di),n,(fl up,fl dn),[])])[i]? = some u->(x.us[i]? = some u /\ u.1≠a) \/ (i=x.us.length /\ u.1=a):=fun i u h=>by
        rcases Nat.lt_or_ge i x.us.length with hl | hl
        ·rw [List.getElem?_append_left hl] at h
         exact .inl ⟨h,hneg u (List.mem_of_getElem? h)⟩
        ·rw [List.getElem?_append_right hl] at h
         have:i - x.us.length=0:=by
          have:=(List.getElem?_eq_some_iff.1 h).1
          simp at this
          omega
         rw [this] at h
         injection h with h
         exact .inr ⟨by omega,by rw [<-h]⟩
       rcases cls i u hi with ⟨a1,a2⟩ | ⟨a1,a2⟩ <;> rcases cls j v hj with ⟨b1,b2⟩ | ⟨b1,b2⟩
       ·exact hx.uniq i j u v a1 b1 huv
       ·exact absurd (huv.trans b2) a2
       ·exact absurd (huv.symm.trans a2) b2
       ·omega
theorem rule_total {x:RSt} (hx:Good x) (al:Bool) (ws:List (List Int)) (hw:∀ w∈ws,w.length<=20000):∃ x' e,ruleP x al ws=some (x',e) /\ Res e /\ (e=0->Good x'):=by
  have bad:∃ x' e,some (x,(2:Int))=some (x',e) /\ Res e /\ (e=0->Good x'):=⟨x,2,rfl,by unfold Res;omega,fun e=>by cases e⟩
  match ws,hw with
  | [],_=>exact bad
  | [_],_=>exact bad
  | [_,_],_=>exact bad
  | _::_::_::_::_,_=>exact bad
  | [a,b,c],hw=>
    show ∃ x' e',cond (decide (usAt x.us a < 0)) (some (x,2)) ((F_conf_pattern b).bind fun p=>(F_conf_span c).bind fun sp=>ruleG x a al p sp)=some (x',e') /\ _
    cases hat:decide (usAt x.us a < 0) with
    | true=>exact bad
    | false=>
      obtain ⟨u,hu,hua⟩:=usAt_pos x.us a (by have:=of_decide_eq_false hat;omega)
      obtain ⟨k,h,ip,b',o1,e1,k1⟩:=pat_total b (hw b (by simp))
      obtain ⟨f,t,o2,e2,k2⟩:=span_total c (by have:=hw c (by simp);omega)
      rw [cond_false,e1,Option.bind_some,e2,Option.bind_some]
      unfold ruleG
      dsimp only
      cases hc:(o1&&o2) with
      | false=>exact bad
      | true=>
        simp only [Bool.and_eq_true] at hc
        have hp:=k1 hc.1
        have hs:=k2 hc.2
        rw [cond_true,hu]
        dsimp only
        have hgu:=hx.each u (List.mem_of_getElem? hu)
        cases h64:Nat.beq u.2.2.2.2.length 64 with
        | true=>exact ⟨_,_,rfl,by unfold Res;omega,fun e=>by cases e⟩
        | false=>
          have hne:u.2.2.2.2.length≠64:=fun e=>by rw [e] at h64;exact absurd h64 (by decide)
          have hle:=hgu.many
          rw [cond_false,Nat.ble_eq_true_of_le hle,cond_true]
          refine ⟨_,_,rfl,by unfold Res;omega,fun _=>⟨hx.lim,?_,fun v hv=>?_,fun i j v v' hi hj hvv=>?_⟩⟩
          · show (x.us.set _ _).length<=16
            rw [List.length_set];exact hx.few
          · rcases List.mem_or_eq_of_mem_set hv with hv | rfl
            · exact hx.each v hv
            · refine ⟨⟨hgu.ok.name,hgu.ok.nosp,hgu.ok.short,hgu.ok.salt,hgu.ok.saltl,hgu.ok.dig,hgu.ok.digl,hgu.ok.many⟩,hgu.cnt,?_,fun r hr=>?_⟩
              · show (u.2.2.2.2++[_]).length<=64
                rw [List.length_append]
                show u.2.2.2.2.length+1<=64
                omega
              · have hr:r∈u.2.2.2.2++[(al,k,h,(ip,b'),f,t)]:=hr
                rcases List.mem_append.1 hr with hr | hr
                · exact hgu.rules r hr
                · rw [List.mem_singleton.1 hr]
                  exact ⟨hp,hs.1,hs.2.1,hs.2.2⟩
          · have cls : ∀ (i : Nat) (v : UserD), (x.us.set (usAt x.us a).toNat (u.1, u.2.1, u.2.2.1, u.2.2.2.1, u.2.2.2.2 ++ [(al, k, h, (ip, b'), f, t)]))[i]? = some v -> ∃ v0, x.us[i]? = some v0 /\ v0.1 = v.1 := fun i v hv => by
              rw [List.getElem?_set] at hv
              split at hv
              · rename_i hi
                split at hv
                · injection hv with hv
                  refine ⟨u,by rw [<-hi];exact hu,by rw [<-hv]⟩
                · cases hv
              · exact ⟨v,hv,rfl⟩
            obtain ⟨w1,g1,g2⟩:=cls i v hi
            obtain ⟨w2,g3,g4⟩:=cls j v' hj
            exact hx.uniq i j w1 w2 g1 g3 (g2.trans (hvv.trans g4.symm))
theorem line_total {x:RSt} (hx:Good x) (s:List Int) (hs:s.length<=20000):∃ x' e,lineP x s=some (x',e) /\ Res e /\ (e=0->Good x'):=by
 unfold lineP
 rw [Nat.ble_eq_true_of_le (show s.length<=4000000000 by omega),Nat.ble_eq_true_of_le hx.few]
 rw [Bool.and_self,cond_true]
 have hwl:∀ w∈splitI s 32,w.length<=20000:=fun w hw=>Nat.le_trans (split_mem_len hw) hs
 cases hsp:splitI s 32 with
 | nil=>exact absurd hsp (splitI_ne _ _)
 | cons w0 ws=>
  rw [hsp] at hwl
  have hw:∀ w∈ws,w.length<=20000:=fun w hw=>hwl w (by simp [hw])
  have hw':∀ w∈ws,w.length<=100000:=fun w hw'=>by have:=hw w hw';omega
  show ∃ x' e,lineW x w0 ws=some (x',e) /\ _
  unfold lineW
  cases h1:w0==lbL with
  | true=>
   obtain ⟨x',ok,e,hk⟩:=limits_total hx ws hw'
   rw [cond_true,e]
   cases ok with
   | true=>exact ⟨_,_,rfl,by unfold Res;show (0:Int)<=0 /\ (0:Int) < 10;omega,fun _=>hk rfl⟩
   | false=>exact ⟨_,_,rfl,by unfold Res;show (0:Int)<=2 /\ (2:Int) < 10;omega,fun e=>by have e:(2:Int)=0:=e;omega⟩
  | false=>
  rw [cond_false]
  cases h2:w0==lbU with
  | true=>exact user_total hx ws hw'
  | false=>
  rw [cond_false]
  cases h3:w0==lbA with
  | true=>exact rule_total hx true ws hw
  | false=>
  rw [cond_false]
  cases h4:w0==lbD with
  | true=>exact rule_total hx false ws hw
  | false=>exact ⟨_,_,rfl,by unfold Res;omega,fun e=>by cases e⟩
theorem good_rst0:Good rst0:=by
 refine ⟨fun k hk=>?_,Nat.zero_le _,(fun u hu=>by cases hu),(fun i j u v hi=>by cases hi)⟩
 match k,hk with
 | 0,_ | 1,_ | 2,_ | 3,_ | 4,_ | 5,_ | 6,_=>decide
end Go.Proofs.YtgfmfgombmpodaaGreatDoor
namespace Go.Proofs.YtgfmfgombmpodaaGreatDoor
open Pv
set_option linter.unusedVariables false
theorem number_nn (z lo hi:Int) (h0:0<=z) (h2:z<=9223372036854775807):F_conf_number (dgs z.toNat) lo hi=some (z,decide (z >= lo)&&decide (z<=hi)):=by
 have h:=number_itoa z lo hi (by omega) h2
 obtain ⟨n,rfl⟩:=Int.eq_ofNat_of_zero_le h0
 exact h
end Go.Proofs.YtgfmfgombmpodaaGreatDoor
namespace Go.Proofs.YtgfmfgombmpodaaGreatDoor
open Pv Vc
set_option linter.unusedVariables false
theorem join4 (a b c d:List Int) (h:(a++32::(b++32::(c++32::d))).length<=100000):F_strings_Join [a,b,c,d] [32]=some (a++32::(b++32::(c++32::d))):=by
 have e:joinP [a,b,c,d] [32]=a++32::(b++32::(c++32::d)):=by rw [joinP_two,joinP_two,joinP_two,joinP_one]
 rw [join_eq (by show 4<=1000;omega) (by rw [e];exact h),e]
theorem join7 (a b c d e f g:List Int) (h:(a++32::(b++32::(c++32::(d++32::(e++32::(f++32::g)))))).length<=100000):F_strings_Join [a,b,c,d,e,f,g] [32]=some (a++32::(b++32::(c++32::(d++32::(e++32::(f++32::g)))))):=by
 have e:joinP [a,b,c,d,e,f,g] [32]=a++32::(b++32::(c++32::(d++32::(e++32::(f++32::g))))):=by rw [joinP_two,joinP_two,joinP_two,joinP_two,joinP_two,joinP_two,joinP_one]
 rw [join_eq (by show 7<=1000;omega) (by rw [e];exact h),e]
theorem span_tail {α:Type} {f t:Int} (h1:1<=f) (h2:f<=t) (h3:t<=65535) (G:List Int->Option α) :
  cond (f==1) (cond (t==65535) (G [42]) (cond (f != t) ((F_strconv_Itoa t).bind fun s=>chk (Nat.ble (([45]:List Int).length+s.length) maxLen) (chk (Nat.ble ((itoaI f).length+(([45]:List Int)++s).length) maxLen) (G (itoaI f++(([45]:List Int)++s))))) (G (itoaI f))))
   (cond (f != t) ((F_strconv_Itoa t).bind fun s=>chk (Nat.ble (([45]:List Int).length+s.length) maxLen) (chk (Nat.ble ((itoaI f).length+(([45]:List Int)++s).length) maxLen) (G (itoaI f++(([45]:List Int)++s))))) (G (itoaI f)))=G (spanT f t):=by
 have lf:=itoa_ln f (by omega) (by omega)
 have lt:=itoa_ln t (by omega) (by omega)
 have hm:maxLen=9223372036854775807:=rfl
 have hB:(F_strconv_Itoa t).bind (fun s=>chk (Nat.ble (([45]:List Int).length+s.length) maxLen) (chk (Nat.ble ((itoaI f).length+(([45]:List Int)++s).length) maxLen) (G (itoaI f++(([45]:List Int)++s)))))=G (itoaI f++([45]++itoaI t)):=by
  unfold F_strconv_Itoa chk
  rw [Option.bind_some,Nat.ble_eq_true_of_le (by show 1+(itoaI t).length<=maxLen;omega),cond_true,Nat.ble_eq_true_of_le (by rw [List.length_append];show (itoaI f).length+(1+(itoaI t).length)<=maxLen;omega),cond_true]
 rw [hB]
 unfold spanT
 cases f==1 <;> cases t==65535 <;> cases f != t <;> rfl
def rl (nm:List Int) (r:RuleD):List Int:=ruleLine r.1 nm (patT r.2.1 r.2.2.1 r.2.2.2.1.1 r.2.2.2.1.2) (spanT r.2.2.2.2.1 r.2.2.2.2.2)
theorem rule_print {r:RuleD} (h:RuleOk r) {nm:List Int} (hn:nm.length<=64):F_conf_Rule_line r.1 r.2.1 r.2.2.1 r.2.2.2.1.1 r.2.2.2.1.2 r.2.2.2.2.1 r.2.2.2.2.2 nm=some (rl nm r):=by
 obtain ⟨al,k,hh,⟨ip,b⟩,f,t⟩:=r
 obtain ⟨hp,h1,h2,h3⟩:=h
 have hp:PatOk k hh ip b:=hp
 have h1:1<=f:=h1
 have h2:f<=t:=h2
 have h3:t<=65535:=h3
 obtain ⟨_,_,pl⟩:=pat_back hp
 obtain ⟨_,_,sl⟩:=span_back h1 h2 h3
 have hw:(cond al lbA lbD).length<=5:=by cases al <;> decide
 have hj:∀ q,q.length<=300->F_strings_Join [cond al lbA lbD,nm,patT k hh ip b,q] [32]=some (cond al lbA lbD++32::(nm++32::(patT k hh ip b++32::q))):=fun q hq=>join4 _ _ _ _ (by simp only [List.length_append,List.length_cons];omega)
 show F_conf_Rule_line al k hh ip b f t nm=some (ruleLine al nm (patT k hh ip b) (spanT f t))
 have hf:=(hj _ sl)
 unfold ruleLine
 rw [<-hf]
 have fin:=span_tail h1 h2 h3 (fun q=>F_strings_Join [cond al lbA lbD,nm,patT k hh ip b,q] [32])
 rw [<-fin]
 have bs:∀ x:Option (List Int),(x.bind fun s=>some s)=x:=fun x=>by cases x <;> rfl
 unfold F_conf_Rule_line
 rw [show F_strconv_Itoa f=some (itoaI f) from rfl,Option.bind_some]
 cases hp with
 | any=>cases al <;> simp only [bs] <;> rfl
 | suffix m h=>cases al <;> simp only [bs] <;> rfl
 | within ip b h=>
  rw [(net_back h).1]
  cases al <;> simp only [bs] <;> rfl
 | just _ h hp=>cases al <;> simp only [bs] <;> rfl
noncomputable def upI (z:Nat×Nat):Int:=(F_tally_Up z).getD 0
noncomputable def dnI (z:Nat×Nat):Int:=(F_tally_Down z).getD 0
noncomputable def uLines (u:UserD):List (List Int):=userLine u.1 u.2.1.1 u.2.1.2 u.2.2.1 (upI u.2.2.2.1) (dnI u.2.2.2.1)::u.2.2.2.2.map (rl u.1)
theorem uLines_len {u:UserD} (h:UGood u):(uLines u).length<=65:=by
 unfold uLines
 rw [List.length_cons,List.length_map]
 have:=h.many
 omega
theorem upd_of {u:UserD} (h:UGood u):F_tally_Up u.2.2.2.1=some (upI u.2.2.2.1) /\ F_tally_Down u.2.2.2.1=some (dnI u.2.2.2.1) /\ Cnt (upI u.2.2.2.1) /\ Cnt (dnI u.2.2.2.1) /\ u.2.2.2.1=(fl (upI u.2.2.2.1),fl (dnI u.2.2.2.1)):=by
 obtain ⟨a,b,ha,hb,e⟩:=h.cnt
 obtain ⟨e1,e2⟩:=up_fl ha hb
 have u1:upI u.2.2.2.1=a:=by unfold upI;rw [e,e1];rfl
 have u2:dnI u.2.2.2.1=b:=by unfold dnI;rw [e,e2];rfl
 rw [u1,u2,e,e1,e2]
 exact ⟨rfl,rfl,ha,hb,rfl⟩
theorem chk_n {α:Type} {x:Option α} {a b:Nat} (h:a+b<=1000000):chk (decide ((a+b)*16<=140737488355328)&&decide (a+b<=maxLen)) x=x:=by
 have hm:maxLen=9223372036854775807:=rfl
 unfold chk
 rw [decide_eq_true (by omega),decide_eq_true (by omega)];rfl
theorem rules_loop {u:UserD} (h:UGood u) (acc:List (List Int)) (ha:acc.length<=100000):∀ (m i:Nat),i+m=u.2.2.2.2.length->loopC (F_conf_Print_L18 u) (acc++(u.2.2.2.2.take i).map (rl u.1),(i:Int))=some (.inr (acc++u.2.2.2.2.map (rl u.1)))
 | 0,i,hi=>by
  have:i=u.2.2.2.2.length:=by omega
  subst this
  refine loop_inl ?_
  unfold F_conf_Print_L18
  dsimp only
  rw [decide_eq_false (by omega),cond_false,List.take_length]
 | m+1,i,hi=>by
  have hlt:i < u.2.2.2.2.length:=by omega
  have hmany:=h.many
  have hget:u.2.2.2.2[i]? = some u.2.2.2.2[i]:=List.getElem?_eq_getElem hlt
  have hr:=h.rules _ (List.mem_of_getElem? hget)
  have hl:(acc++(u.2.2.2.2.take i).map (rl u.1)).length+1<=1000000:=by
   rw [List.length_append,List.length_map,List.length_take]
   omega
  refine loop_inr ?_ (rules_loop h acc ha m (i+1) (by omega))
  unfold F_conf_Print_L18
  dsimp only
  rw [decide_eq_true (by omega),cond_true,getI_nat hget,Option.bind_some,rule_print hr h.ok.short,Option.bind_some,chk_n (by show _+1<=_;exact hl),wrap_in (by omega) (by omega)]
  rw [List.take_add_one,hget]
  show some (Sum.inr (acc++(u.2.2.2.2.take i).map (rl u.1)++[rl u.1 u.2.2.2.2[i]],_))=_
  rw [List.map_append,List.append_assoc]
  rfl
theorem user_print {u:UserD} (h:UGood u):F_strings_Join [([117,115,101,114]:List Int),u.1,hexT u.2.1.1,hexT u.2.1.2,itoaI u.2.2.1,itoaI (upI u.2.2.2.1),itoaI (dnI u.2.2.2.1)] [32]=some (userLine u.1 u.2.1.1 u.2.1.2 u.2.2.1 (upI u.2.2.2.1) (dnI u.2.2.2.1)):=by
 obtain ⟨_,_,c1,c2,_⟩:=upd_of h
 have c11:=c1.1
 have c12:=c1.2
 have c21:=c2.1
 have c22:=c2.2
 have q1:=itoa_ln (upI u.2.2.2.1) (by omega) (by omega)
 have q2:=itoa_ln (dnI u.2.2.2.1) (by omega) (by omega)
 have hm:=h.ok.many
 have q3:=itoa_ln u.2.2.1 (by omega) (by omega)
 have q4:=hexT_ln u.2.1.1
 have q5:=hexT_ln u.2.1.2
 have q6:=h.ok.saltl
 have q7:=h.ok.digl
 have q8:=h.ok.short
 exact join7 _ _ _ _ _ _ _ (by simp only [List.length_append,List.length_cons,List.length_nil];omega)
theorem users_loop {us:List UserD} (hus:∀ u∈us,UGood u) (h16:us.length<=16) (acc:List (List Int)) (ha:acc.length<=10000):∀ (m i:Nat),i+m=us.length->loopC (F_conf_Print_L11 us) (acc++(us.take i).flatMap uLines,(i:Int))=some (.inr (acc++us.flatMap uLines))
 | 0,i,hi=>by
  have:i=us.length:=by omega
  subst this
  refine loop_inl ?_
  unfold F_conf_Print_L11
  dsimp only
  rw [decide_eq_false (by omega),cond_false,List.take_length]
 | m+1,i,hi=>by
  have hlt:i < us.length:=by omega
  have hget:us[i]? = some us[i]:=List.getElem?_eq_getElem hlt
  have hu:=hus _ (List.mem_of_getElem? hget)
  have hlen:∀ l:List UserD,(∀ u∈l,UGood u)->(l.flatMap uLines).length<=65*l.length:=by
   intro l
   induction l with
   | nil=>intro _;simp
   | cons v l ih=>
    intro hv
    rw [List.flatMap_cons,List.length_append,List.length_cons]
    have:=ih fun u h=>hv u (by simp [h])
    have:=uLines_len (hv v (by simp))
    omega
  have hl0:((us.take i).flatMap uLines).length<=65*16:=by
   have:=hlen (us.take i) fun u h=>hus u (List.mem_of_mem_take h)
   rw [List.length_take] at this
   omega
  have hl:(acc++(us.take i).flatMap uLines).length<=20000:=by
   rw [List.length_append];omega
  obtain ⟨p1,p2,_,_,_⟩:=upd_of hu
  refine loop_inr ?_ (users_loop hus h16 acc ha m (i+1) (by omega))
  unfold F_conf_Print_L11
  dsimp only
  have hs:=hu.ok.saltl
  have hd:=hu.ok.digl
  rw [decide_eq_true (by omega),cond_true,getI_nat hget,Option.bind_some,chex_eq (by omega),Option.bind_some,chex_eq (by omega),Option.bind_some]
  rw [show F_strconv_Itoa us[i].2.2.1=some (itoaI us[i].2.2.1) from rfl,Option.bind_some,p1,Option.bind_some,show F_strconv_Itoa (upI us[i].2.2.2.1)=some (itoaI (upI us[i].2.2.2.1)) from rfl,Option.bind_some,p2,Option.bind_some,show F_strconv_Itoa (dnI us[i].2.2.2.1)=some (itoaI (dnI us[i].2.2.2.1)) from rfl,Option.bind_some]
  rw [user_print hu,Option.bind_some,chk_n (by show _+1<=_;omega)]
  have hr:=rules_loop hu ((acc++(us.take i).flatMap uLines)++[userLine us[i].1 us[i].2.1.1 us[i].2.1.2 us[i].2.2.1 (upI us[i].2.2.2.1) (dnI us[i].2.2.2.1)]) (by rw [List.length_append];show _+1<=_;omega) us[i].2.2.2.2.length 0 (by omega)
  rw [List.take_zero,List.map_nil,List.append_nil,show ((0:Nat):Int)=0 from rfl] at hr
  rw [join_inr hr]
  unfold F_conf_Print_J14
  dsimp only
  rw [wrap_in (by omega) (by omega),List.take_add_one,hget]
  show some (Sum.inr (_,_))=some (Sum.inr (acc++(us.take i++[us[i]]).flatMap uLines,_))
  rw [List.flatMap_append,List.append_assoc,List.append_assoc]
  have e:[us[i]].flatMap uLines=uLines us[i]:=by simp
  rw [e]
  rfl
noncomputable def printL (x:RSt):List (List Int):=limLines x.lim++x.us.flatMap uLines
theorem lim_seven (x:RSt):limLines (seven x.c0 x.c1 x.c2 x.c3 x.c4 x.c5 x.c6)=limLines x.lim:=by
 unfold limLines
 refine List.map_congr_left fun k hk=>?_
 have hk:k < 7:=by simpa using hk
 match k,hk with
 | 0,_ | 1,_ | 2,_ | 3,_ | 4,_ | 5,_ | 6,_=>rfl
theorem print_eq {x:RSt} (hx:Good x):F_conf_Print x.c0 x.c1 x.c2 x.c3 x.c4 x.c5 x.c6 x.us=some (printL x):=by
 unfold F_conf_Print F_conf_Print_mid printL
 rw [lim_seven]
 have hl:(limLines x.lim).length<=10000:=by unfold limLines;rw [List.length_map,List.length_range];omega
 have h:=users_loop hx.each hx.few (limLines x.lim) hl x.us.length 0 (by omega)
 rw [List.take_zero,List.flatMap_nil,List.append_nil,show ((0:Nat):Int)=0 from rfl] at h
 rw [join_inr h]
 rfl
theorem limHi_le (k:Nat) (hk:k < 7):0<=limLo k /\ limHi k<=1099511627776:=by
 match k,hk with
 | 0,_ | 1,_ | 2,_ | 3,_ | 4,_ | 5,_ | 6,_=>decide
theorem word_no (k:Nat) (hk:k < 7):(∀ c∈bytesL (limW k),c≠32) /\ (bytesL (limW k)).length<=100 /\ limAt (bytesL (limW k))=some k:=by
 match k,hk with
 | 0,_ | 1,_ | 2,_ | 3,_ | 4,_ | 5,_ | 6,_=>exact ⟨by decide,by decide,by decide⟩
theorem bEq_rr (b:Bool):bEq b b=true:=by cases b <;> rfl
theorem feq_r {a:Int} (h:Cnt a):feq .f64 (fl a) (fl a)=true:=by
 unfold feq
 rw [fl_order h.abs h.abs]
 have:compare a a=.eq:=by simp
 rw [this];rfl
theorem copied_ok {u:UserD} (h:UGood u):F_conf_copied u.1 u.2.1.1 u.2.1.2 u.2.2.1 u.2.2.2.1 u.2.2.2.2=some (u.1,u.2.1.1,u.2.1.2,u.2.2.1,u.2.2.2.1,u.2.2.2.2):=by
 have q6:=h.ok.saltl
 have q7:=h.ok.digl
 have q8:=h.many
 unfold F_conf_copied F_bytes_Clone F_slices_Clone_conf_Rule_conf_Rule
 rw [Nat.ble_eq_true_of_le (by omega),Nat.ble_eq_true_of_le (by omega),Nat.ble_eq_true_of_le (by omega)]
 rfl
theorem few_spec (l:List (List Int)):∃ b,F_wlvlaw18_Few l=some b /\ (b=true->l.length<=300 /\ ∀ s∈l,s.length<=20000):=by
 have key:∀ m i:Nat,i+m=min l.length 300 -> ∀ n:Int,0<=n->n<=20001*(i:Int) -> ∃ n',loopC (F_wlvlaw18_Few_L4 l) (n,(i:Int))=some (.inr n') /\ n<=n' /\ (n'<=20000 -> ∀ j s,i<=j->j < min l.length 300->l[j]? = some s->s.length<=20000):=by
  intro m
  induction m with
  | zero=>
   intro i hi n h0 h1
   refine ⟨n,loop_inl ?_,Int.le_refl _,fun _ j s hj hjl=>by omega⟩
   unfold F_wlvlaw18_Few_L4
   dsimp only
   rw [show (decide ((i:Int) < (l.length:Int))&&decide ((i:Int) < 300))=false by
    rw [Bool.and_eq_false_iff]
    rcases Nat.lt_or_ge i l.length with h | h
    ·exact .inr (decide_eq_false (by omega))
    ·exact .inl (decide_eq_false (by omega)),cond_false]
  | succ m ih=>
   intro i hi n h0 h1
   have hget:l[i]? = some l[i]:=List.getElem?_eq_getElem (by omega)
   have hmin:minI (l[i].length:Int) 20001=((min l[i].length 20001:Nat):Int):=by
    unfold minI
    by_cases h:(20001:Int) < (l[i].length:Int)
    ·rw [decide_eq_true h,cond_true];omega
    ·rw [decide_eq_false h,cond_false];omega
   obtain ⟨n',g1,g2,g3⟩:=ih (i+1) (by omega) (n+((min l[i].length 20001:Nat):Int)) (by omega) (by omega)
   refine ⟨n',loop_inr ?_ g1,by omega,fun hn j s hj hjl hs=>?_⟩
   ·unfold F_wlvlaw18_Few_L4
    dsimp only
    rw [decide_eq_true (by omega),decide_eq_true (by omega),Bool.and_self,cond_true,getI_nat hget,Option.bind_some,hmin,wrap_in (by omega) (by omega),wrap_in (by omega) (by omega)]
    rfl
   ·rcases Nat.lt_or_ge i j with h | h
    ·exact g3 hn j s h hjl hs
    ·have e:j=i:=by omega
     subst e
     rw [hget] at hs
     injection hs with hs
     rw [<-hs]
     omega
 obtain ⟨n',h1,_,h3⟩:=key (min l.length 300) 0 (by omega) 0 (by omega) (by omega)
 have h1:loopC (F_wlvlaw18_Few_L4 l) (0,0)=some (.inr n'):=h1
 unfold F_wlvlaw18_Few
 rw [join_inr h1]
 unfold F_wlvlaw18_Few_J2
 refine ⟨_,rfl,fun hb=>?_⟩
 simp only [Bool.and_eq_true,decide_eq_true_eq] at hb
 refine ⟨by omega,fun s hs=>?_⟩
 obtain ⟨j,hj,rfl⟩:=List.mem_iff_getElem.1 hs
 exact h3 hb.2 j _ (Nat.zero_le _) (by omega) (List.getElem?_eq_getElem hj)
theorem texts_refl (l:List (List Int)) (h:l.length<=1000000):F_wlvref_Texts l l=some true:=by
 have key:∀ m i:Nat,i+m=l.length->loopC (F_wlvref_Texts_L6 l l) (i:Int)=some (.inr ()):=by
  intro m
  induction m with
  | zero=>
   intro i hi
   refine loop_inl ?_
   unfold F_wlvref_Texts_L6
   dsimp only
   rw [decide_eq_false (by omega),cond_false]
  | succ m ih=>
   intro i hi
   have hget:l[i]? = some l[i]:=List.getElem?_eq_getElem (by omega)
   refine loop_inr ?_ (ih (i+1) (by omega))
   unfold F_wlvref_Texts_L6
   dsimp only
   rw [decide_eq_true (by omega),cond_true,getI_nat hget,Option.bind_some,Option.bind_some,beq_self_eq_true,Bool.not_true,cond_false,wrap_in (by omega) (by omega)]
   rfl
 unfold F_wlvref_Texts
 rw [bne_self_eq_false,cond_false]
 have h0:=key l.length 0 (by omega)
 rw [show ((0:Nat):Int)=0 from rfl] at h0
 rw [join_inr h0]
 rfl
set_option maxHeartbeats 1000000
theorem printL_len {x:RSt} (hx:Good x):7<=(printL x).length /\ (printL x).length<=2000:=by
 have hlen:∀ l:List UserD,(∀ u∈l,UGood u)->(l.flatMap uLines).length<=65*l.length:=by
  intro l
  induction l with
  | nil=>intro _;simp
  | cons v l ih=>
   intro hv
   rw [List.flatMap_cons,List.length_append,List.length_cons]
   have:=ih fun u h=>hv u (by simp [h])
   have:=uLines_len (hv v (by simp))
   omega
 have h1:=hlen x.us hx.each
 have h2:=hx.few
 unfold printL
 rw [List.length_append]
 have h3:(limLines x.lim).length=7:=by unfold limLines;rw [List.length_map,List.length_range]
 omega
end Go.Proofs.YtgfmfgombmpodaaGreatDoor
namespace Go.Proofs.YtgfmfgombmpodaaGreatDoor
open Pv
set_option linter.unusedVariables false
theorem rs_okc {c:Int}:okc c = !((decide (c < 97)||decide (c > 122))&&((decide (c < 65)||decide (c > 90))&&((((decide (c < 48)||decide (c > 57))&&(c != 46))&&(c != 95))&&(c != 45)))):=by
 unfold okc
 rw [Bool.eq_iff_iff]
 simp only [decide_eq_true_eq,Bool.not_eq_true',Bool.and_eq_false_iff,Bool.or_eq_false_iff,decide_eq_false_iff_not,bne_eq_false_iff_eq]
 omega
theorem rs_name_loop (s:List Int) (hs:s.length<=1000000):∀ (m i:Nat),i+m=s.length->loopC (F_wlvref18_name_L6 s) (i:Int)=some (cond ((s.drop i).all okc) (.inr ()) (.inl false)):=by
 intro m
 induction m with
 | zero=>
  intro i hi
  refine loop_inl ?_
  unfold F_wlvref18_name_L6
  rw [List.drop_eq_nil_of_le (by omega)]
  dsimp only
  rw [decide_eq_false (by omega)];rfl
 | succ m ih=>
  intro i hi
  have hc:s[i]? = some s[i]:=List.getElem?_eq_getElem (by omega)
  rw [List.drop_eq_getElem_cons (by omega:i < s.length),List.all_cons]
  generalize hx:s[i]=x at hc
  cases hk:okc x with
  | false=>
   rw [Bool.false_and]
   refine loop_inl ?_
   unfold F_wlvref18_name_L6
   dsimp only
   rw [decide_eq_true (by omega),cond_true,getI_nat hc,Option.bind_some]
   rw [rs_okc] at hk
   rw [Bool.not_eq_false',Bool.and_eq_true,Bool.and_eq_true] at hk
   obtain ⟨h1,h2,h3⟩:=hk
   rw [h1,cond_true,h2,cond_true,h3,cond_true,cond_false]
  | true=>
   rw [Bool.true_and]
   refine loop_inr (s':=((i+1:Nat):Int)) ?_ (ih (i+1) (by omega))
   unfold F_wlvref18_name_L6
   dsimp only
   rw [decide_eq_true (by omega),cond_true,getI_nat hc,Option.bind_some,wrap_in (by omega) (by omega)]
   rw [rs_okc] at hk
   have e:((i:Int)+1)=((i+1:Nat):Int):=by omega
   rw [e]
   cases h1:(decide (x < 97)||decide (x > 122)) with
   | false=>
    rw [cond_false,cond_false]
   | true=>
    rw [cond_true]
    cases h2:(decide (x < 65)||decide (x > 90)) with
    | false=>rw [cond_false]
    | true=>
     rw [h1,h2,Bool.true_and,Bool.true_and,Bool.not_eq_true'] at hk
     rw [cond_true,hk,cond_false]
theorem rs_name (s:List Int) (hs:s.length<=1000000):F_wlvref18_name s=F_conf_named s:=by
  unfold F_wlvref18_name F_conf_named
  by_cases h0:s=[]
  · subst h0;rfl
  · have hl : 1 <= s.length := by
      rcases Nat.eq_zero_or_pos s.length with h | h
      · exact absurd (List.eq_nil_of_length_eq_zero h) h0
      · exact h
    have he:List.isEmpty s=false:=by cases s with | nil=>exact absurd rfl h0 | cons _ _=>rfl
    rw [he]
    by_cases h64:s.length<=64
    · rw [show (decide ((s.length:Int) < 1)||decide ((s.length:Int) > 64))=false by rw [decide_eq_false (by omega),decide_eq_false (by omega)];rfl,cond_false,Nat.ble_eq_true_of_le h64]
      have h:=rs_name_loop s hs s.length 0 (by omega)
      rw [List.drop_zero] at h
      rw [show loopC (F_wlvref18_name_L6 s) (0:Int)=_ from h]
      cases s.all okc <;> rfl
    · rw [show (decide ((s.length:Int) < 1)||decide ((s.length:Int) > 64))=true by rw [decide_eq_true (show (s.length:Int) > 64 by omega),Bool.or_true],cond_true,show Nat.ble s.length 64=false from Bool.eq_false_iff.2 fun h=>h64 (Nat.le_of_ble_eq_true h)]
      rfl
theorem rs_num (s:List Int) (lo hi:Int) (hs:s.length<=1000000) (h0:0<=lo) (hh:hi<=9999999999999999) :
  ∃ n m ok,F_wlvref_Num s lo hi=some (m,ok) /\ F_conf_number s lo hi=some (n,ok) /\ (ok=true->m=n /\ lo<=n /\ n<=hi /\ itoaI n=s):=by
 obtain ⟨x,e1,e2⟩:=Num_eq s lo hi
 obtain ⟨n,ok,f1,f2⟩:=number_total s lo hi hs
 cases hk:(canonB s&&decide (s.length<=17)&&(decide (lo<=valI s)&&decide (valI s<=hi))) with
 | true=>
  rw [hk] at e1
  simp only [Bool.and_eq_true,decide_eq_true_eq] at hk
  obtain ⟨⟨c1,c2⟩,c3,c4⟩:=hk
  have hx:=e2 c1 c2
  obtain ⟨k,rfl,hv⟩:=canon_eq _ s rfl c1
  rw [hv] at c3 c4 hx
  have hn:=number_nn (k:Int) lo hi (by omega) (by omega)
  rw [Int.toNat_natCast] at hn
  rw [decide_eq_true (show (k:Int) >= lo from c3),decide_eq_true c4] at hn
  exact ⟨k,x,true,e1,hn,fun _=>⟨hx,c3,c4,itoa_dgs k⟩⟩
 | false=>
  rw [hk] at e1
  cases ok with
  | false=>exact ⟨n,x,false,e1,f1,fun e=>by cases e⟩
  | true=>
   exfalso
   obtain ⟨g1,g2,g3⟩:=f2 rfl
   obtain ⟨k,rfl⟩:∃ k:Nat,n=(k:Int):=⟨n.toNat,by omega⟩
   rw [itoa_dgs] at g1
   subst g1
   have hv:=dgs_val (x:=(k:Int)) (by omega)
   rw [Int.toNat_natCast] at hv
   rw [canon_dgs,hv,decide_eq_true (dgs_len 16 k (by omega)),decide_eq_true g2,decide_eq_true g3] at hk
   cases hk
def rsHex:List Int:=[48,49,50,51,52,53,54,55,56,57,97,98,99,100,101,102]
def rsDig (c:Int):Int:=match rsHex.findIdx? (fun x=>x==c) with | some j=>(j:Int) | none=>-1
theorem rs_digit_loop (c:Int):∀ (m i:Nat),i+m=16->loopC (F_wlvref18_digit_L3 c) (i:Int)=some (match (rsHex.drop i).findIdx? (fun x=>x==c) with | some j=>.inl ((i+j:Nat):Int) | none=>.inr ()):=by
 intro m
 induction m with
 | zero=>
  intro i hi
  refine loop_inl ?_
  unfold F_wlvref18_digit_L3
  rw [List.drop_eq_nil_of_le (by show 16<=i;omega)]
  dsimp only
  rw [decide_eq_false (by omega)];rfl
 | succ m ih=>
  intro i hi
  have hl:i < rsHex.length:=by show i < 16;omega
  have hc:rsHex[i]? = some rsHex[i]:=List.getElem?_eq_getElem hl
  rw [List.drop_eq_getElem_cons hl,List.findIdx?_cons]
  generalize hx:rsHex[i]=x at hc
  have hb:F_wlvref18_digit_L3 c (i:Int)=cond (x==c) (some (.inl (.inl (i:Int)))) (some (.inr ((i+1:Nat):Int))):=by
   unfold F_wlvref18_digit_L3
   dsimp only
   rw [decide_eq_true (by omega),cond_true,show getI ([48,49,50,51,52,53,54,55,56,57,97,98,99,100,101,102]:List Int) (i:Int)=some x from getI_nat hc,Option.bind_some,wrap_in (by omega) (by omega)]
   rfl
  cases hq:x==c with
  | true=>
   refine loop_inl ?_
   rw [hb,hq];rfl
  | false=>
   rw [hq] at hb
   refine loop_inr (s':=((i+1:Nat):Int)) hb ?_
   rw [ih (i+1) (by omega)]
   show some (match (rsHex.drop (i+1)).findIdx? (fun x=>x==c) with | some j=>_ | none=>_)=some (match (Option.map (fun i=>i+1) ((rsHex.drop (i+1)).findIdx? (fun x=>x==c))) with | some j=>_ | none=>_)
   cases (rsHex.drop (i+1)).findIdx? (fun x=>x==c) with
   | none=>rfl
   | some j=>
    show some (Sum.inl _)=some (Sum.inl _)
    rw [show i+1+j=i+(j+1) by omega]
theorem rs_digit (c:Int):F_wlvref18_digit c=some (rsDig c):=by
 have h:=rs_digit_loop c 16 0 rfl
 unfold F_wlvref18_digit
 rw [show loopC (F_wlvref18_digit_L3 c) (0:Int)=_ from h]
 unfold rsDig
 rw [List.drop_zero]
 cases rsHex.findIdx? (fun x=>x==c) with
 | none=>rfl
 | some j=>show some _=some _;rw [Nat.zero_add]
theorem rs_dig_lt {c:Int} (h:¬ rsDig c < 0):∃ j:Fin 16,rsDig c=(j.val:Int) /\ c=rsHex[j.val]'j.isLt:=by
 unfold rsDig at h ⊢
 cases hq:rsHex.findIdx? (fun x=>x==c) with
 | none=>rw [hq] at h;exact absurd (show (-1:Int) < 0 by decide) h
 | some j=>
  obtain ⟨h1,h2,_⟩:=List.findIdx?_eq_some_iff_getElem.1 hq
  exact ⟨⟨j,h1⟩,rfl,(eq_of_beq h2).symm⟩
theorem rs_pair:∀ a b:Fin 16,hx2 (IntKind.u8.wrap (IntKind.i64.wrap (IntKind.i64.wrap (16*(a.val:Int))+(b.val:Int))))=[rsHex[a.val]'a.isLt,rsHex[b.val]'b.isLt]:=by decide +kernel
theorem rs_hx2:∀ q:Fin 256,∃ a b:Fin 16,hx2 (q.val:Int)=[rsHex[a.val]'a.isLt,rsHex[b.val]'b.isLt] /\ rsDig (rsHex[a.val]'a.isLt)=(a.val:Int) /\ rsDig (rsHex[b.val]'b.isLt)=(b.val:Int) /\ IntKind.u8.wrap (IntKind.i64.wrap (IntKind.i64.wrap (16*(a.val:Int))+(b.val:Int)))=(q.val:Int):=by decide +kernel
def unhexL:List Int->Option (List Int)
 | []=>some []
 | [_]=>none
 | a::b::r=>cond (decide (rsDig a < 0)||decide (rsDig b < 0)) none ((unhexL r).map fun l=>IntKind.u8.wrap (IntKind.i64.wrap (IntKind.i64.wrap (16*rsDig a)+rsDig b))::l)
theorem unhex_some:∀ {s l:List Int},unhexL s=some l->s=hexT l /\ ∀ x∈l,0<=x /\ x < 256
 | [],l,h=>by
  injection h with h
  subst h
  exact ⟨rfl,fun x hx=>by cases hx⟩
 | [_],l,h=>by cases h
 | a::b::r,l,h=>by
  unfold unhexL at h
  cases hd:(decide (rsDig a < 0)||decide (rsDig b < 0)) with
  | true=>rw [hd] at h;cases h
  | false=>
   rw [hd,cond_false,Option.map_eq_some_iff] at h
   obtain ⟨l',h1,rfl⟩:=h
   rw [Bool.or_eq_false_iff,decide_eq_false_iff_not,decide_eq_false_iff_not] at hd
   obtain ⟨i,hi,rfl⟩:=rs_dig_lt hd.1
   obtain ⟨j,hj,rfl⟩:=rs_dig_lt hd.2
   obtain ⟨h2,h3⟩:=unhex_some h1
   rw [hi,hj,hexT_cons,rs_pair,<- h2]
   refine ⟨rfl,fun x hx=>?_⟩
   rcases List.mem_cons.1 hx with rfl | hx
   ·exact u8_byte _
   ·exact h3 x hx
theorem unhex_hexT:∀ {l:List Int},(∀ x∈l,0<=x /\ x < 256)->unhexL (hexT l)=some l
 | [],_=>rfl
 | x::l,h=>by
  have hx:=h x (by simp)
  obtain ⟨a,b,h1,h2,h3,h4⟩:=rs_hx2 ⟨x.toNat,by omega⟩
  simp only [show ((x.toNat:Nat):Int)=x by omega] at h1 h4
  rw [hexT_cons,h1]
  show cond (decide (rsDig (rsHex[a.val]'a.isLt) < 0)||decide (rsDig (rsHex[b.val]'b.isLt) < 0)) none ((unhexL (hexT l)).map fun l=>IntKind.u8.wrap (IntKind.i64.wrap (IntKind.i64.wrap (16*rsDig (rsHex[a.val]'a.isLt))+rsDig (rsHex[b.val]'b.isLt)))::l)=_
  rw [h2,h3,h4,decide_eq_false (by omega),decide_eq_false (by omega),unhex_hexT fun y hy=>h y (by simp [hy])]
  rfl
theorem rs_unhex_loop (s:List Int) (hs:s.length<=100000):∀ (m:Nat) (r acc:List Int),r.length=2*m->s.drop (2*acc.length)=r->2*acc.length+r.length=s.length->loopC (F_wlvref18_unhex_L7 s) (acc,((2*acc.length:Nat):Int))=some (match unhexL r with | some l=>.inr (acc++l) | none=>.inl ([],false)):=by
 intro m
 induction m with
 | zero=>
  intro r acc hr hd hl
  have:r=[]:=List.eq_nil_of_length_eq_zero hr
  subst this
  refine loop_inl ?_
  unfold F_wlvref18_unhex_L7
  dsimp only
  rw [decide_eq_false (by rw [<-hl];simp)]
  show _=some (Sum.inl (Sum.inr (acc++[])))
  rw [List.append_nil];rfl
 | succ m ih=>
  intro r acc hr hd hl
  match r,hr,hd,hl with
  | a::b::r,hr,hd,hl=>
  simp only [List.length_cons] at hr hl
  have ha:s[2*acc.length]? = some a:=by
   have:=congrArg (fun z=>z[0]?) hd
   simpa [List.getElem?_drop] using this
  have hb:s[2*acc.length+1]? = some b:=by
   have:=congrArg (fun z=>z[1]?) hd
   simpa [List.getElem?_drop] using this
  have hbody:F_wlvref18_unhex_L7 s (acc,((2*acc.length:Nat):Int))=cond (decide (rsDig a < 0)||decide (rsDig b < 0)) (some (.inl (.inl (([]:List Int),false)))) (some (.inr (acc++[IntKind.u8.wrap (IntKind.i64.wrap (IntKind.i64.wrap (16*rsDig a)+rsDig b))],((2*(acc.length+1):Nat):Int)))):=by
   have hm:maxLen=9223372036854775807:=rfl
   unfold F_wlvref18_unhex_L7
   dsimp only
   rw [decide_eq_true (by omega),cond_true,getI_nat ha,Option.bind_some,rs_digit,Option.bind_some,wrap_in (by omega) (by omega),show ((2*acc.length:Nat):Int)+1=((2*acc.length+1:Nat):Int) by omega,getI_nat hb,Option.bind_some,rs_digit,Option.bind_some]
   unfold chk
   have e1:decide ((acc.length+[IntKind.u8.wrap (IntKind.i64.wrap (IntKind.i64.wrap (16*rsDig a)+rsDig b))].length)*1<=140737488355328)=true:=decide_eq_true (by show (acc.length+1)*1<=_;omega)
   have e2:decide (acc.length+[IntKind.u8.wrap (IntKind.i64.wrap (IntKind.i64.wrap (16*rsDig a)+rsDig b))].length<=maxLen)=true:=decide_eq_true (by show acc.length+1<=_;omega)
   rw [e1,e2,Bool.and_self,cond_true,show IntKind.i64.wrap (((2*acc.length:Nat):Int)+2)=((2*acc.length:Nat):Int)+2 from wrap_in (by omega) (by omega),show ((2*acc.length:Nat):Int)+2=((2*(acc.length+1):Nat):Int) by omega]
  unfold unhexL
  cases hq:(decide (rsDig a < 0)||decide (rsDig b < 0)) with
  | true=>
   rw [hq] at hbody
   exact loop_inl hbody
  | false=>
   rw [hq,cond_false] at hbody
   refine loop_inr hbody ?_
   have h:=ih r (acc++[IntKind.u8.wrap (IntKind.i64.wrap (IntKind.i64.wrap (16*rsDig a)+rsDig b))]) (by omega) (by
    rw [List.length_append,show 2*(acc.length+[IntKind.u8.wrap (IntKind.i64.wrap (IntKind.i64.wrap (16*rsDig a)+rsDig b))].length)=2*acc.length+2 by simp;omega,<- List.drop_drop,hd];rfl) (by simp;omega)
   rw [List.length_append] at h
   rw [show loopC (F_wlvref18_unhex_L7 s) (acc++[IntKind.u8.wrap (IntKind.i64.wrap (IntKind.i64.wrap (16*rsDig a)+rsDig b))],((2*(acc.length+1):Nat):Int))=_ from h]
   cases unhexL r with
   | none=>rfl
   | some l=>show some (Sum.inr _)=some (Sum.inr _);rw [List.append_assoc];rfl
theorem unhexL_odd:∀ {s:List Int},s.length % 2=1->unhexL s=none
 | [],h=>by cases h
 | [_],_=>rfl
 | a::b::r,h=>by
  simp only [List.length_cons] at h
  unfold unhexL
  rw [unhexL_odd (s:=r) (by omega)]
  cases (decide (rsDig a < 0)||decide (rsDig b < 0)) <;> rfl
theorem rs_unhex (s:List Int) (hs:s.length<=100000):F_wlvref18_unhex s=some (match unhexL s with | some l=>(l,true) | none=>([],false)):=by
  unfold F_wlvref18_unhex
  by_cases h2:s.length % 2=0
  · have h:=rs_unhex_loop s hs (s.length / 2) s [] (by omega) rfl (by simp)
    rw [show (Int.tmod (s.length:Int) 2 != 0)=false by
      rw [bne_eq_false_iff_eq,Int.tmod_eq_emod_of_nonneg (by omega)];omega,cond_false,show loopC (F_wlvref18_unhex_L7 s) (([]:List Int),0)=_ from h]
    cases unhexL s <;> rfl
  · rw [show (Int.tmod (s.length : Int) 2 != 0) = true by
      rw [bne_iff_ne,Int.tmod_eq_emod_of_nonneg (by omega)];omega,cond_true,unhexL_odd (by omega)]
theorem bytes_is {s:List Int} {lo hi:Int} (hs:s.length<=100000) {l:List Int} (h:F_conf_bytesOf s lo hi=some (l,true)):s=hexT l /\ ∀ x∈l,0<=x /\ x < 256:=by
 obtain ⟨r,h1,h2⟩:=bytes_run_total s hs s.length [] (by simp) (by simp) (fun x hx=>by cases hx)
 unfold F_conf_bytesOf at h
 rw [show loopC (F_conf_bytesOf_L4 s) (([]:List Int),0)=some r from h1] at h
 rcases h2 with rfl | ⟨l',rfl,hl,hb⟩
 ·cases h
 ·have h:F_conf_bytesOf_J2 s lo hi l'=some (l,true):=h
  unfold F_conf_bytesOf_J2 at h
  dsimp only at h
  rw [chex_eq (by omega),Option.bind_some] at h
  injection h with h
  obtain ⟨rfl,hz⟩:=Prod.mk.inj h
  rw [Bool.and_eq_true,Bool.and_eq_true] at hz
  exact ⟨(eq_of_beq hz.1.1).symm,hb⟩
theorem rs_bytes (s:List Int) (lo hi:Int) (hs:s.length<=100000):∃ l l' ok ok',F_wlvref18_unhex s=some (l',ok') /\ F_conf_bytesOf s lo hi=some (l,ok) /\ ok=(ok'&&decide (lo<=(l'.length:Int))&&decide ((l'.length:Int)<=hi)) /\ (ok=true->l'=l):=by
 rw [rs_unhex s hs]
 cases hu:unhexL s with
 | some l'=>
  obtain ⟨rfl,hb⟩:=unhex_some hu
  rw [hexT_ln] at hs
  exact ⟨l',l',_,true,rfl,bytesOf_hex hb (by omega) lo hi,rfl,fun _=>rfl⟩
 | none=>
  obtain ⟨l,ok,h1,_⟩:=bytes_total s lo hi hs
  refine ⟨l,[],ok,false,rfl,h1,?_,fun e=>?_⟩
  ·cases ok with
   | false=>rfl
   | true=>
    obtain ⟨h2,h3⟩:=bytes_is hs h1
    rw [h2,unhex_hexT h3] at hu
    cases hu
  ·subst e
   obtain ⟨h2,h3⟩:=bytes_is hs h1
   rw [h2,unhex_hexT h3] at hu
   cases hu
theorem rs_form1 (s:List Int) (hs:s.length<=1000000):∃ v c,∀ lo hi,F_conf_number s lo hi=some (v,(c&&decide (v >= lo))&&decide (v<=hi)):=by
 refine ⟨(atoiP s).1,cond (notB (atoiP s).2) (itoaI (atoiP s).1==s) false,fun lo hi=>?_⟩
 unfold F_conf_number F_strconv_Atoi
 rw [Nat.ble_eq_true_of_le (by omega),cond_true,Option.bind_some]
 cases notB (atoiP s).2 <;> rfl
theorem rs_ports (s:List Int) (hs:s.length<=100000):∃ f t ok f' t',F_conf_span s=some (f,t,ok) /\ F_wlvref18_ports s=some (f',t',ok) /\ (ok=true->f'=f /\ t'=t):=by
 cases h42:s==([42]:List Int) with
 | true=>
  have:=eq_of_beq h42
  subst this
  exact ⟨1,65535,true,1,65535,rfl,rfl,fun _=>⟨rfl,rfl⟩⟩
 | false=>
  rcases first_cut 45 s with h | ⟨h,t,rfl,hn⟩
  ·obtain ⟨n,m,ok,e1,e2,e3⟩:=rs_num s 1 65535 (by omega) (by omega) (by omega)
   have A:F_conf_span s=some (n,n,(ok&&ok)&&decide (n<=n)):=by
    unfold F_conf_span
    rw [h42,cond_false,cutZ_none s 45 h,Option.bind_some]
    dsimp only
    rw [Bool.not_false,cond_true,e2,Option.bind_some,Option.bind_some]
   have B:F_wlvref18_ports s=some (m,m,ok):=by
    unfold F_wlvref18_ports
    rw [h42,cond_false,Split_eq s 45 (by omega),Option.bind_some,splitI_miss h,show getI ([s]:List (List Int)) 0=some s from rfl,Option.bind_some,e1,Option.bind_some]
    rfl
   exact ⟨n,n,ok,m,m,by rw [A,decide_eq_true (Int.le_refl n),Bool.and_true,Bool.and_self],B,fun h=>⟨(e3 h).1,(e3 h).1⟩⟩
  ·have hlen:(h++45::t).length=h.length+(t.length+1):=by rw [List.length_append,List.length_cons]
   obtain ⟨n,m,ok,e1,e2,e3⟩:=rs_num h 1 65535 (by omega) (by omega) (by omega)
   obtain ⟨v,c,hv⟩:=rs_form1 t (by omega)
   have A:F_conf_span (h++45::t)=some (n,v,(ok&&((c&&decide (v >= 1))&&decide (v<=65535)))&&decide (n<=v)):=by
    unfold F_conf_span
    rw [h42,cond_false,Cut_at h t 45 hn (by omega),Option.bind_some]
    dsimp only
    rw [Bool.not_true,cond_false,e2,Option.bind_some,hv,Option.bind_some]
   have B:∀ x r m2 o2,splitI t 45=x::r->F_wlvref_Num x m 65535=some (m2,o2)->F_wlvref18_ports (h++45::t)=some (m,m2,(ok&&o2)&&((((h::x::r:List (List Int)).length:Nat):Int)==2)):=fun x r m2 o2 hx ho=>by
    unfold F_wlvref18_ports
    rw [h42,cond_false,Split_eq _ 45 (by omega),Option.bind_some,splitI_hit hn,hx,show getI (h::x::r:List (List Int)) 0=some h from rfl,Option.bind_some,e1,Option.bind_some]
    rw [show ((((h::x::r:List (List Int)).length:Nat):Int)==1)=false from beq_eq_false_iff_ne.2 (by simp only [List.length_cons];omega),cond_false,show getI (h::x::r:List (List Int)) 1=some x from rfl,Option.bind_some]
    dsimp only
    rw [ho,Option.bind_some]
   rcases first_cut 45 t with h2 | ⟨h2,t2,rfl,hn2⟩
   ·cases ok with
    | false=>
     obtain ⟨m2,ho,_⟩:=Num_eq t m 65535
     exact ⟨n,v,false,m,m2,A,B t [] m2 _ (splitI_miss h2) ho,fun e=>by cases e⟩
    | true=>
     obtain ⟨rfl,g1,g2,_⟩:=e3 rfl
     obtain ⟨n2,m2,ok2,k1,k2,k3⟩:=rs_num t m 65535 (by omega) (by omega) (by omega)
     rw [hv] at k2
     injection k2 with k2
     obtain ⟨rfl,k5⟩:=Prod.mk.inj k2
     have hok:((true&&((c&&decide (v >= 1))&&decide (v<=65535)))&&decide (m<=v))=ok2:=by
      rw [<-k5]
      cases c with
      | false=>rfl
      | true=>
       rw [Bool.eq_iff_iff]
       simp only [Bool.true_and,Bool.and_eq_true,decide_eq_true_eq]
       omega
     refine ⟨m,v,ok2,m,m2,by rw [A,hok],?_,fun e=>⟨rfl,(k3 e).1⟩⟩
     rw [B t [] m2 ok2 (splitI_miss h2) k1]
     cases ok2 <;> rfl
   ·have hl2:(h2++45::t2).length=h2.length+(t2.length+1):=by rw [List.length_append,List.length_cons]
    obtain ⟨m2,ho,_⟩:=Num_eq h2 m 65535
    have hs2:splitI (h2++45::t2) 45=h2::splitI t2 45:=splitI_hit hn2
    have hne:1<=(splitI t2 45).length:=by
     cases hq:splitI t2 45 with
     | nil=>exact absurd hq (splitI_ne _ _)
     | cons _ _=>simp
    have hz:((c&&decide (v >= 1))&&decide (v<=65535))=false:=by
     cases hq:((c&&decide (v >= 1))&&decide (v<=65535)) with
     | false=>rfl
     | true=>
      exfalso
      obtain ⟨n3,ok3,q1,q2⟩:=number_total (h2++45::t2) 1 65535 (by omega)
      rw [hv] at q1
      injection q1 with q1
      obtain ⟨rfl,q6⟩:=Prod.mk.inj q1
      rw [hq] at q6
      obtain ⟨q3,q4,q5⟩:=q2 q6.symm
      have:=itoa_dig (z:=v) (by omega) 45 (by rw [q3];simp)
      omega
    refine ⟨n,v,false,m,m2,by rw [A,hz,Bool.and_false,Bool.false_and],?_,fun e=>by cases e⟩
    rw [B _ _ m2 _ hs2 ho,show ((((h::h2::splitI t2 45:List (List Int)).length:Nat):Int)==2)=false from beq_eq_false_iff_ne.2 (by simp only [List.length_cons];omega),Bool.and_false]
theorem rs_net (s:List Int) (hs:s.length<=1000000):F_wlvref15_ParseNet s=F_addr_ParseNet s:=by
 rcases first_cut 47 s with h | ⟨h,t,rfl,hn⟩
 ·rw [refNet_none s h hs,ParseNet_none s h hs]
 ·rw [refNet_at h t hn hs,ParseNet_at h t hn hs]
theorem splitI_head {x c:Int} {s:List Int} (h:x≠c):∃ w r,splitI (x::s) c=(x::w)::r:=by
 unfold splitI
 rw [beq_eq_false_iff_ne.2 h,cond_false]
 cases splitI s c with
 | nil=>exact ⟨[],[],rfl⟩
 | cons w r=>exact ⟨w,r,rfl⟩
theorem hex_46 (w:List Int):hexGB (46::w)=false:=by
 unfold hexGB
 rw [List.all_cons,show decide (0<=dg 46)=false from rfl,Bool.false_and,Bool.and_false]
theorem parse_46 (r:List Int):(parseR (46::r)).2≠0:=by
 have h4:(fourR (46::r)).2=false:=by
  unfold fourR
  rw [show splitI (46::r) 46=[]::splitI r 46 from rfl,List.all_cons,show byteB []=false from rfl,Bool.false_and,Bool.and_false]
  rfl
 have hg:grpR [] (46::r)=none:=by
  unfold grpR
  cases hd:dcI (46::r) with
  | none=>
   obtain ⟨w,r',e⟩:=splitI_head (x:=46) (c:=58) (s:=r) (by decide)
   dsimp only
   rw [e,List.all_cons,hex_46];rfl
  | some i=>
   dsimp only
   cases i with
   | zero=>
    exfalso
    cases r with
    | nil=>cases hd
    | cons y r=>
     have hd:cond ((46:Int)==58&&y==58) (some 0) ((dcI (y::r)).map (· + 1))=some 0:=hd
     rw [show ((46:Int)==58)=false from rfl,Bool.false_and,cond_false,Option.map_eq_some_iff] at hd
     obtain ⟨j,_,hj⟩:=hd
     omega
   | succ i=>
    obtain ⟨w,r',e⟩:=splitI_head (x:=46) (c:=58) (s:=r.take i) (by decide)
    rw [show (46::r).take (i+1)=46::r.take i from rfl,partsO_ne (by intro e;cases e),e,List.all_cons,hex_46];rfl
 unfold parseR
 rw [h4,hg]
 show (2:Int)≠0
 decide
theorem net_46 (r:List Int) (hr:r.length<=100000):F_addr_ParseNet (46::r)=some ([],0,2):=by
  rcases first_cut 47 r with h | ⟨h,t,rfl,hn⟩
  · rw [ParseNet_none (46 :: r) (fun x hx => by
      rcases List.mem_cons.1 hx with rfl | hx
      · decide
      · exact h x hx) (by rw [List.length_cons];omega),netR_no (parse_46 r)]
  · rw [show 46 :: (h ++ 47 :: t) = (46 :: h) ++ 47 :: t from rfl, ParseNet_at (46 :: h) t (fun x hx => by
      rcases List.mem_cons.1 hx with rfl | hx
      · decide
      · exact hn x hx) (by rw [List.length_append,List.length_cons] at hr;rw [List.length_append,List.length_cons,List.length_cons];omega),netR_no (parse_46 h)]
theorem rs_pat (s:List Int) (hs:s.length<=20000):∃ k h ip b ok nt hn,F_conf_pattern s=some (false,k,h,ip,b,0,0,ok) /\ F_wlvref15_ParseNet s=some nt /\ F_wlvref15_Name s=some hn /\ rpatG s nt hn=some (cond ok (some (k,h,ip,b)) none):=by
  have hnm:∀ s:List Int,s.length<=20000->F_wlvref15_Name s=some (nameR s):=fun s hs=>by rw [refName_eq s (by omega),nameR_eq]
  rw [rs_net s (by omega),hnm s hs]
  obtain ⟨ip,b,e,hn,_,_⟩:=net_total s (by omega)
  rw [hn]
  cases h42:s==([42]:List Int) with
  | true=>
    have:=eq_of_beq h42
    subst this
    exact ⟨0,[],[],0,true,_,_,rfl,rfl,rfl,rfl⟩
  | false=>
    have tailE : ∃ k h ip' b' ok, ((F_addr_ParseNet s).bind fun x4 => cond (x4.2.2 == 0) (some ((false, 3, ([] : List Int), x4.1, x4.2.1, 0, 0, true) : Bool × Int × List Int × List Int × Int × Int × Int × Bool)) ((F_host_Name s).bind fun x5 => some (false, 1, x5.1, ([] : List Int), 0, 0, 0, (x5.2 == 0)))) = some (false, k, h, ip', b', 0, 0, ok) /\
        cond (e==0) (some (some ((3,[],ip,b):PatR))) (cond ((nameR s).2==0) (some (some (1,(nameR s).1,[],0))) (some none))=some (cond ok (some (k,h,ip',b')) none):=by
      rw [hn,Option.bind_some]
      dsimp only
      cases he:e==0 with
      | true=>exact ⟨_,_,_,_,_,rfl,rfl⟩
      | false=>
        rw [cond_false,cond_false,name_eq,Option.bind_some]
        refine ⟨_,_,_,_,_,rfl,?_⟩
        cases (nameR s).2==0 <;> rfl
    unfold F_conf_pattern
    rw [h42,cond_false,cutp_eq s (by omega),Option.bind_some]
    cases hcp:(cutP s).2 with
    | false=>
      obtain ⟨k,h,ip',b',ok,t1,t2⟩:=tailE
      rw [cond_false]
      refine ⟨k,h,ip',b',ok,_,_,t1,rfl,rfl,?_⟩
      unfold rpatG
      rw [h42,cond_false]
      have hh:(s.headD 0==46)=false:=by
        cases s with
        | nil=>rfl
        | cons c r=>
          show (c==46)=false
          cases hc:c==46 with
          | false=>rfl
          | true=>
            have hcp:(cond (c==46) (r,true) (c::r,false)).2=false:=hcp
            rw [hc] at hcp
            cases hcp
      rw [hh,Bool.and_false,cond_false]
      exact t2
    | true=>
      obtain ⟨r,rfl⟩:∃ r,s=46::r:=by
        match s,hcp with
        | c::r,hcp=>
          cases hc:c==46 with
          | true=>exact ⟨r,by rw [eq_of_beq hc]⟩
          | false=>
            have hcp:(cond (c==46) (r,true) (c::r,false)).2=true:=hcp
            rw [hc] at hcp
            cases hcp
      rw [List.length_cons] at hs
      have h46:=net_46 r (by omega)
      rw [h46] at hn
      injection hn with hn
      obtain ⟨rfl,hn7⟩:=Prod.mk.inj hn
      obtain ⟨rfl,rfl⟩:=Prod.mk.inj hn7
      have hn46:=name_46 r
      rw [cond_true,show (cutP (46::r)).1=r from rfl,name_eq,Option.bind_some,h46,name_eq,hn46]
      cases h2:(nameR r).2==0 with
      | false=>
        refine ⟨1,[],[],0,false,_,_,rfl,rfl,rfl,?_⟩
        unfold rpatG
        rw [h42,cond_false]
        cases hz:(Nat.ble 2 (46::r:List Int).length&&((46::r:List Int).headD 0==46)) with
        | false=>rfl
        | true=>
          rw [cond_true,show (46::r:List Int).drop 1=r from rfl,hnm r (by omega),Option.bind_some,h2]
          rfl
      | true=>
        obtain ⟨f1,f2⟩:=name_fix (eq_of_beq h2)
        have hl:=(name_chars f2).2.2
        have hne:=(name_chars f2).2.1
        have hm:maxLen=9223372036854775807:=rfl
        rw [cond_true]
        unfold chk
        rw [f1]
        rw [Nat.ble_eq_true_of_le (by show 1+(r.map lw).length<=maxLen;omega),cond_true]
        refine ⟨_,_,_,_,_,_,_,rfl,rfl,rfl,?_⟩
        unfold rpatG
        rw [h42,cond_false]
        have hz:(Nat.ble 2 (46::r:List Int).length&&((46::r:List Int).headD 0==46))=true:=by
          cases r with
          | nil=>exact absurd rfl hne
          | cons y r=>rw [Nat.ble_eq_true_of_le (by simp only [List.length_cons];omega)];rfl
        rw [hz,cond_true,show (46::r:List Int).drop 1=r from rfl,hnm r (by omega),Option.bind_some,h2,cond_true,f1]
        dsimp only
        rw [Nat.ble_eq_true_of_le (by omega),cond_true]
        rfl
end Go.Proofs.YtgfmfgombmpodaaGreatDoor
namespace Go.Proofs.YtgfmfgombmpodaaGreatDoor
open Pv Vc
set_option linter.unusedVariables false
structure Sim (x:RSt) (y:RfSt):Prop where
 us:y.us=x.us
 n:∀ k,k < 7->y.n.getD k 0=x.lim k
 set:∀ k,k < 7->y.set.getD k false=x.told.contains (bytesL (limW k))
 nl:y.n.length=7
 sl:y.set.length=7
theorem sim_0:Sim rst0 rfst0:=by
 refine ⟨rfl,fun k hk=>?_,fun k hk=>?_,rfl,rfl⟩
 ·match k,hk with
  | 0,_=>rfl
  | 1,_=>rfl
  | 2,_=>rfl
  | 3,_=>rfl
  | 4,_=>rfl
  | 5,_=>rfl
  | 6,_=>rfl
 ·match k,hk with
  | 0,_=>rfl
  | 1,_=>rfl
  | 2,_=>rfl
  | 3,_=>rfl
  | 4,_=>rfl
  | 5,_=>rfl
  | 6,_=>rfl
theorem limAt_is {a:List Int} {k:Nat} (h:limAt a=some k):bytesL (limW k)=a:=by
 unfold limAt at h
 have:=List.find?_some h
 exact eq_of_beq this
theorem limW_inj:∀ i j:Fin 7,bytesL (limW i.val)=bytesL (limW j.val)->i=j:=by decide +kernel
theorem rs_lo:∀ k:Fin 7,rfLo k.val=limLo k.val /\ rfMost.getD k.val 0=limHi k.val:=by decide +kernel
theorem rs_lim {x:RSt} {y:RfSt} (h:Sim x y) (w:List Int) (ws:List (List Int)) (hw:∀ w∈ws,w.length<=100000):∃ x' y' ok,limitsP x ws=some (x',ok) /\ rlimitP y (w::ws)=some (y',ok) /\ (ok=true->Sim x' y'):=by
 match ws,hw with
 | [],_=>exact ⟨_,_,_,rfl,rfl,fun e=>by cases e⟩
 | [_],_=>exact ⟨_,_,_,rfl,rfl,fun e=>by cases e⟩
 | _::_::_::_,_=>exact ⟨_,_,_,rfl,rfl,fun e=>by cases e⟩
 | [a,b],hw=>
  show ∃ x' y' ok,cond (x.told.contains a) (some (x,false)) (match limAt a with
   | none=>some (x,false)
   | some k=>(F_conf_number b (limLo k) (limHi k)).bind fun p=>some ({ x.setLim k p.1 with told:=x.told++[a] },p.2))=some (x',ok) /\ (match limAt a with
   | none=>some (y,false)
   | some k=>(F_wlvref_Num b (rfLo k) (rfMost.getD k 0)).bind fun p=>some (cond (!p.2||y.set.getD k false) (y,false) ({ y with set:=y.set.set k true,n:=y.n.set k p.1 },true)))=some (y',ok) /\ _
  cases hl:limAt a with
  | none=>cases x.told.contains a <;> exact ⟨_,_,_,rfl,rfl,fun e=>by cases e⟩
  | some k=>
   have hk:=limAt_lt hl
   have ha:=limAt_is hl
   obtain ⟨l1,l2⟩:=rs_lo ⟨k,hk⟩
   have l1:rfLo k=limLo k:=l1
   have l2:rfMost.getD k 0=limHi k:=l2
   obtain ⟨p1,p2⟩:=limHi_le k hk
   obtain ⟨n,m,ok,e1,e2,e3⟩:=rs_num b (limLo k) (limHi k) (by have:=hw b (by simp);omega) p1 (by omega)
   dsimp only
   rw [l1,l2,e1,e2,Option.bind_some,Option.bind_some,h.set k hk,ha]
   dsimp only
   cases ht:x.told.contains a with
   | true=>exact ⟨_,_,_,rfl,by rw [Bool.or_true,cond_true],fun e=>by cases e⟩
   | false=>
    cases ok with
    | false=>exact ⟨_,_,_,rfl,rfl,fun e=>by cases e⟩
    | true=>
     refine ⟨_,_,_,rfl,rfl,fun _=>⟨?_,fun j hj=>?_,fun j hj=>?_,?_,?_⟩⟩
     ·show y.us=(x.setLim k n).us
      rw [set_us3];exact h.us
     ·show (y.n.set k m).getD j 0=(x.setLim k n).lim j
      rw [lim_set x k n hk j hj,List.getD_eq_getElem?_getD,List.getElem?_set,h.nl]
      by_cases hjk:j=k
      ·subst hjk
       rw [if_pos rfl,if_pos hj,if_pos rfl]
       exact (e3 rfl).1
      ·rw [if_neg (fun e=>hjk e.symm),if_neg hjk,<- List.getD_eq_getElem?_getD]
       exact h.n j hj
     ·show (y.set.set k true).getD j false=(x.told++[a]).contains (bytesL (limW j))
      rw [List.contains_append,<- h.set j hj,List.getD_eq_getElem?_getD,List.getElem?_set,h.sl]
      by_cases hjk:j=k
      ·subst hjk
       rw [if_pos rfl,if_pos hj,ha]
       simp
      ·rw [if_neg (fun e=>hjk e.symm),<- List.getD_eq_getElem?_getD]
       have hne:bytesL (limW j)≠a:=fun e=>hjk (by
        have:=limW_inj ⟨j,hj⟩ ⟨k,hk⟩ (by rw [e,ha])
        exact congrArg Fin.val this)
       simp [hne]
     ·show (y.n.set k m).length=7
      rw [List.length_set];exact h.nl
     ·show (y.set.set k true).length=7
      rw [List.length_set];exact h.sl
theorem usHas_eq (us:List UserD) (s:List Int):usHas us s=decide (0<=usAt us s):=by
 unfold usHas
 by_cases h:0<=usAt us s
 ·rw [decide_eq_true h,List.any_eq_true]
  obtain ⟨u,hu,e⟩:=usAt_pos us s h
  exact ⟨u,List.mem_of_getElem? hu,by rw [e,beq_self_eq_true]⟩
 ·rw [decide_eq_false h,List.any_eq_false]
  intro u hu hb
  exact usAt_neg us s (by omega) u hu (eq_of_beq hb)
theorem rs_user {x:RSt} {y:RfSt} (hx:Good x) (h:Sim x y) (w:List Int) (ws:List (List Int)) (hw:∀ w∈ws,w.length<=100000):∃ x' y' e,userP x ws=some (x',e) /\ ruserP y (w::ws)=some (y',e) /\ (e=0->Sim x' y'):=by
 match ws,hw with
 | [],_=>exact ⟨_,_,_,rfl,rfl,fun e=>by cases e⟩
 | [_],_=>exact ⟨_,_,_,rfl,rfl,fun e=>by cases e⟩
 | [_,_],_=>exact ⟨_,_,_,rfl,rfl,fun e=>by cases e⟩
 | [_,_,_],_=>exact ⟨_,_,_,rfl,rfl,fun e=>by cases e⟩
 | [_,_,_,_],_=>exact ⟨_,_,_,rfl,rfl,fun e=>by cases e⟩
 | [_,_,_,_,_],_=>exact ⟨_,_,_,rfl,rfl,fun e=>by cases e⟩
 | _::_::_::_::_::_::_::_,_=>exact ⟨_,_,_,rfl,rfl,fun e=>by cases e⟩
 | [a,b,c,d,e,f],hw=>
  show ∃ x' y' z,(F_conf_named a).bind (fun q=>cond q (cond (decide (0<=usAt x.us a)) (some (x,2)) (
   (F_conf_bytesOf b 1 32).bind fun sa=>(F_conf_bytesOf c 32 32).bind fun di=>(F_conf_number d 1 1000).bind fun n=>(F_conf_number e 0 1125899906842624).bind fun up=>(F_conf_number f 0 1125899906842624).bind fun dn=>userG x a sa di n up dn)) (some (x,2)))=some (x',z) /\
   (F_wlvref18_name a).bind (fun q=>cond q (
   (F_wlvref18_unhex b).bind fun sa=>(F_wlvref18_unhex c).bind fun di=>(F_wlvref_Num d 1 1000).bind fun n=>(F_wlvref_Num e 0 1125899906842624).bind fun up=>(F_wlvref_Num f 0 1125899906842624).bind fun dn=>ruserG y a sa di n up dn) (some (y,2)))=some (y',z) /\ (z=0->_)
  rw [rs_name a (by have:=hw a (by simp);omega)]
  unfold F_conf_named
  rw [Option.bind_some,Option.bind_some]
  cases (!(List.isEmpty a)&&Nat.ble a.length 64&&a.all okc) with
  | false=>exact ⟨_,_,_,rfl,rfl,fun e=>by cases e⟩
  | true=>
   rw [cond_true,cond_true]
   obtain ⟨sl,sl',so,so',s1,s2,s3,s4⟩:=rs_bytes b 1 32 (hw b (by simp))
   obtain ⟨dl,dl',dk,dk',d1,d2,d3,d4⟩:=rs_bytes c 32 32 (hw c (by simp))
   obtain ⟨n,m,nk,n1,n2,n3⟩:=rs_num d 1 1000 (by have:=hw d (by simp);omega) (by omega) (by omega)
   obtain ⟨u,v,uk,u1,u2,u3⟩:=rs_num e 0 1125899906842624 (by have:=hw e (by simp);omega) (by omega) (by omega)
   obtain ⟨p,q,pk,p1,p2,p3⟩:=rs_num f 0 1125899906842624 (by have:=hw f (by simp);omega) (by omega) (by omega)
   rw [s1,s2,d1,d2,n1,n2,u1,u2,p1,p2]
   simp only [Option.bind_some]
   unfold ruserG ruserC
   dsimp only
   rw [h.us,usHas_eq]
   cases hat:decide (0<=usAt x.us a) with
   | true=>
    refine ⟨x,y,2,rfl,?_,fun e=>absurd e (by decide)⟩
    simp only [Bool.not_true,Bool.and_false,cond_false]
   | false=>
    rw [cond_false]
    unfold userG
    dsimp only
    cases hz:(so&&(dk&&(nk&&(uk&&pk)))) with
    | false=>
     refine ⟨x,y,2,rfl,?_,fun e=>absurd e (by decide)⟩
     have key:(so'&&(Nat.ble 1 sl'.length&&(Nat.ble sl'.length 32&&(dk'&&(Nat.beq dl'.length 32&&(nk&&(uk&&(pk&&true))))))))=(so&&(dk&&(nk&&(uk&&pk)))):=by
      rw [s3,d3,Bool.eq_iff_iff]
      simp only [Bool.and_eq_true,decide_eq_true_eq,Nat.ble_eq,beq_iff,and_true]
      constructor
      ·rintro ⟨h1,h2,h3,h4,h5,h6,h7,h8⟩
       exact ⟨⟨⟨h1,by omega⟩,by omega⟩,⟨⟨h4,by omega⟩,by omega⟩,h6,h7,h8⟩
      ·rintro ⟨⟨⟨h1,h2⟩,h3⟩,⟨⟨h4,h5⟩,h6⟩,h7,h8,h9⟩
       exact ⟨h1,by omega,by omega,h4,by omega,h7,h8,h9⟩
     have:(so'&&(Nat.ble 1 sl'.length&&(Nat.ble sl'.length 32&&(dk'&&(Nat.beq dl'.length 32&&(nk&&(uk&&(pk && !false))))))))=false:=key.trans hz
     rw [this,cond_false]
    | true=>
     rw [cond_true]
     simp only [Bool.and_eq_true] at hz
     obtain ⟨rfl,rfl,rfl,rfl,rfl⟩:=hz
     obtain rfl:=s4 rfl
     obtain rfl:=d4 rfl
     obtain ⟨rfl,a1,a2,_⟩:=n3 rfl
     obtain ⟨rfl,b1,b2,_⟩:=u3 rfl
     obtain ⟨rfl,c1,c2,_⟩:=p3 rfl
     have s3:=s3.symm
     have d3:=d3.symm
     simp only [Bool.and_eq_true,decide_eq_true_eq] at s3 d3
     obtain ⟨⟨rfl,s5⟩,s6⟩:=s3
     obtain ⟨⟨rfl,d5⟩,d6⟩:=d3
     have:(true&&(Nat.ble 1 sl'.length&&(Nat.ble sl'.length 32&&(true&&(Nat.beq dl'.length 32&&(true&&(true&&(true && !false))))))))=true:=by
      simp only [Bool.and_eq_true,Nat.ble_eq,beq_iff,Bool.not_false,and_true,true_and]
      exact ⟨by omega,by omega,by omega⟩
     rw [this,cond_true]
     have he:∀ l:List Int,1<=l.length->List.isEmpty l=false:=fun l hl=>by cases l with | nil=>cases hl | cons _ _=>rfl
     rw [he sl' (by omega),he dl' (by omega),show isCnt v=true by unfold isCnt;rw [decide_eq_true b1,decide_eq_true b2];rfl,show isCnt q=true by unfold isCnt;rw [decide_eq_true c1,decide_eq_true c2];rfl]
     have hfew:=hx.few
     by_cases h16:x.us.length=16
     ·rw [h16]
      exact ⟨_,_,7,rfl,rfl,fun e=>by cases e⟩
     ·rw [show Nat.beq x.us.length 16=false from Bool.eq_false_iff.2 fun e=>h16 (Nat.eq_of_beq_eq_true e),show Nat.ble 16 x.us.length=false from Bool.eq_false_iff.2 fun e=>by have:=Nat.le_of_ble_eq_true e;omega]
      refine ⟨_,_,0,rfl,rfl,fun _=>⟨?_,h.n,h.set,h.nl,h.sl⟩⟩
      rfl
theorem lastN_spec (us:List UserD) (s:List Int):∀ k,k<=us.length->(lastN us s k = -1 /\ ∀ i u,i < k->us[i]? = some u->u.1≠s) \/ ∃ i u,i < k /\ lastN us s k=(i:Int) /\ us[i]? = some u /\ u.1=s
 | 0,_=>.inl ⟨rfl,fun i u h=>absurd h (Nat.not_lt_zero _)⟩
 | k+1,hk=>by
  have hu:us[k]? = some us[k]:=List.getElem?_eq_getElem (by omega)
  have e:lastN us s (k+1)=cond (us[k].1==s) (k:Int) (lastN us s k):=by
   show (match us[k]? with | some u=>cond (u.1==s) (k:Int) (lastN us s k) | none=>lastN us s k)=_
   rw [hu]
  rw [e]
  cases hq:us[k].1==s with
  | true=>exact .inr ⟨k,us[k],by omega,rfl,hu,eq_of_beq hq⟩
  | false=>
   rw [cond_false]
   rcases lastN_spec us s k (by omega) with ⟨h1,h2⟩ | ⟨i,u,h1,h2,h3⟩
   ·refine .inl ⟨h1,fun i u hi hiu=>?_⟩
    by_cases hik:i=k
    ·subst hik
     rw [hu] at hiu
     injection hiu with hiu
     subst hiu
     exact fun e=>by rw [e,beq_self_eq_true] at hq;cases hq
    ·exact h2 i u (by omega) hiu
   ·exact .inr ⟨i,u,by omega,h2,h3⟩
theorem lastN_usAt {x:RSt} (hx:Good x) (s:List Int):lastN x.us s x.us.length=usAt x.us s:=by
 have hin:=usAt_in x.us s
 rcases lastN_spec x.us s x.us.length (Nat.le_refl _) with ⟨h1,h2⟩ | ⟨i,u,h1,h2,h3,h4⟩
 ·rw [h1]
  by_cases h:0<=usAt x.us s
  ·obtain ⟨u,hu,e⟩:=usAt_pos x.us s h
   exact absurd e (h2 _ u (List.getElem?_eq_some_iff.1 hu).1 hu)
  ·omega
 ·rw [h2]
  by_cases h:0<=usAt x.us s
  ·obtain ⟨v,hv,e⟩:=usAt_pos x.us s h
   have:=hx.uniq i (usAt x.us s).toNat u v h3 hv (h4.trans e.symm)
   omega
  ·exact absurd h4 (usAt_neg x.us s (by omega) u (List.mem_of_getElem? h3))
theorem rs_rule {x:RSt} {y:RfSt} (hx:Good x) (h:Sim x y) (w:List Int) (ws:List (List Int)) (hw:∀ w∈ws,w.length<=20000):∃ x' y' e,ruleP x (w==lbA) ws=some (x',e) /\ rruleP y (w::ws)=some (y',e) /\ (e=0->Sim x' y'):=by
 match ws,hw with
 | [],_=>exact ⟨_,_,_,rfl,rfl,fun e=>by cases e⟩
 | [_],_=>exact ⟨_,_,_,rfl,rfl,fun e=>by cases e⟩
 | [_,_],_=>exact ⟨_,_,_,rfl,rfl,fun e=>by cases e⟩
 | _::_::_::_::_,_=>exact ⟨_,_,_,rfl,rfl,fun e=>by cases e⟩
 | [a,b,c],hw=>
  show ∃ x' y' e,cond (decide (usAt x.us a < 0)) (some (x,2)) ((F_conf_pattern b).bind fun p=>(F_conf_span c).bind fun sp=>ruleG x a (w==lbA) p sp)=some (x',e) /\
   (F_wlvref18_ports c).bind (fun sp=>cond (decide (lastN y.us a y.us.length < 0) || !sp.2.2) (some (y,2)) ((F_wlvref15_ParseNet b).bind fun nt=>(F_wlvref15_Name b).bind fun hn=>(rpatG b nt hn).bind fun p=>rruleG y a (w==lbA) sp.1 sp.2.1 p))=some (y',e) /\ _
  obtain ⟨f,t,ok,f',t',c1,c2,c3⟩:=rs_ports c (by have:=hw c (by simp);omega)
  obtain ⟨k,hh,ip,bt,okp,nt,hn,q1,q2,q3,q4⟩:=rs_pat b (hw b (by simp))
  rw [c1,c2,q1,q2,q3]
  simp only [Option.bind_some]
  rw [q4,Option.bind_some,h.us,lastN_usAt hx]
  cases hat:decide (usAt x.us a < 0) with
  | true=>exact ⟨_,_,2,rfl,rfl,fun e=>by cases e⟩
  | false=>
   rw [cond_false,Bool.false_or]
   unfold ruleG rruleG
   rw [h.us,lastN_usAt hx]
   dsimp only
   cases ok with
   | false=>
    rw [Bool.and_false,cond_false,Bool.not_false,cond_true]
    exact ⟨_,_,2,rfl,rfl,fun e=>by cases e⟩
   | true=>
    obtain ⟨rfl,rfl⟩:=c3 rfl
    rw [Bool.and_true,Bool.not_true,cond_false]
    cases okp with
    | false=>exact ⟨_,_,2,rfl,rfl,fun e=>by cases e⟩
    | true=>
     rw [cond_true,cond_true]
     dsimp only
     obtain ⟨u,hu,_⟩:=usAt_pos x.us a (by have:=of_decide_eq_false hat;omega)
     rw [hu]
     dsimp only
     have hmany:=(hx.each u (List.mem_of_getElem? hu)).many
     by_cases h64:u.2.2.2.2.length=64
     ·rw [h64]
      exact ⟨_,_,7,rfl,rfl,fun e=>by cases e⟩
     ·rw [show Nat.beq u.2.2.2.2.length 64=false from Bool.eq_false_iff.2 fun e=>h64 (Nat.eq_of_beq_eq_true e),show Nat.ble 64 u.2.2.2.2.length=false from Bool.eq_false_iff.2 fun e=>by have:=Nat.le_of_ble_eq_true e;omega,Nat.ble_eq_true_of_le hmany]
      refine ⟨_,_,0,rfl,rfl,fun _=>⟨?_,h.n,h.set,h.nl,h.sl⟩⟩
      rfl
theorem rs_line {x:RSt} {y:RfSt} (hx:Good x) (h:Sim x y) (s:List Int) (hs:s.length<=20000):∃ x' y' e,lineP x s=some (x',e) /\ rlineP y s=some (y',e) /\ (e=0->Sim x' y'):=by
 unfold lineP rlineP
 rw [Nat.ble_eq_true_of_le (show s.length<=4000000000 by omega),h.us,Nat.ble_eq_true_of_le hx.few,Split_eq s 32 (by omega)]
 rw [Bool.and_self,cond_true,cond_true,Option.bind_some]
 have hwl:∀ w∈splitI s 32,w.length<=20000:=fun w hw=>Nat.le_trans (split_mem_len hw) hs
 cases hsp:splitI s 32 with
 | nil=>exact absurd hsp (splitI_ne _ _)
 | cons w0 ws=>
  rw [hsp] at hwl
  have hw:∀ w∈ws,w.length<=20000:=fun w hw=>hwl w (by simp [hw])
  have hw':∀ w∈ws,w.length<=100000:=fun w hw'=>by have:=hw w hw';omega
  show ∃ x' y' e,lineW x w0 ws=some (x',e) /\ rlineW y (w0::ws) w0=some (y',e) /\ _
  unfold lineW rlineW
  cases h1:w0==lbL with
  | true=>
   obtain ⟨x',y',ok,e1,e2,e3⟩:=rs_lim h w0 ws hw'
   rw [cond_true,cond_true,e1,e2]
   cases ok with
   | true=>exact ⟨_,_,_,rfl,rfl,fun _=>e3 rfl⟩
   | false=>exact ⟨_,_,_,rfl,rfl,fun e=>by have e:(2:Int)=0:=e;omega⟩
  | false=>
  rw [cond_false,cond_false]
  cases h2:w0==lbU with
  | true=>exact rs_user hx h w0 ws hw'
  | false=>
  rw [cond_false,cond_false]
  have hr:=rs_rule hx h w0 ws hw
  cases h3:w0==lbA with
  | true=>
   rw [h3] at hr
   exact hr
  | false=>
  rw [h3] at hr
  rw [cond_false,Bool.false_or]
  cases h4:w0==lbD with
  | true=>exact hr
  | false=>exact ⟨_,_,_,rfl,rfl,fun e=>by cases e⟩
theorem rs_parse:∀ (L:List (List Int)) {x:RSt} {y:RfSt},Good x->Sim x y->(∀ s∈L,s.length<=20000) -> ∃ x' y' e,parseL L x=some (x',e) /\ rparseL L y=some (y',e) /\ Res e /\ (e=0->Good x' /\ Sim x' y')
 | [],x,y,hx,h,_=>⟨x,y,0,rfl,rfl,by unfold Res;omega,fun _=>⟨hx,h⟩⟩
 | s::L,x,y,hx,hs,h=>by
  show ∃ x' y' e,cond (skipL s) (parseL L x) ((lineP x s).bind fun p=>cond (decide (p.2=0)) (parseL L p.1) (some p))=some (x',e) /\ cond (skipL s) (rparseL L y) ((rlineP y s).bind fun p=>cond (decide (p.2=0)) (rparseL L p.1) (some p))=some (y',e) /\ _
  cases hk:skipL s with
  | true=>exact rs_parse L hx hs fun t ht=>h t (by simp [ht])
  | false=>
   obtain ⟨x1,y1,e,h1,h2,h3⟩:=rs_line hx hs s (h s (by simp))
   obtain ⟨x2,e2,g1,g2,g3⟩:=line_total hx s (h s (by simp))
   rw [h1] at g1
   injection g1 with g1
   obtain ⟨rfl,rfl⟩:=Prod.mk.inj g1
   rw [cond_false,cond_false,h1,h2,Option.bind_some,Option.bind_some]
   dsimp only
   cases he:decide (e=0) with
   | true=>
    have he:=of_decide_eq_true he
    exact rs_parse L (g3 he) (h3 he) fun t ht=>h t (by simp [ht])
   | false=>exact ⟨x1,y1,e,rfl,rfl,g2,fun e0=>absurd e0 (of_decide_eq_false he)⟩
theorem rparse_eq {l:List (List Int)} {x:RSt} {y:RfSt} {e:Int} (hl:l.length<=1000000) (h:rparseL l rfst0=some (y,e)) (he:Res e) (hs:e=0->Sim x y):F_wlvref18_Parse l=some (cond (decide (e=0)) (x.c0,x.c1,x.c2,x.c3,x.c4,x.c5,x.c6,x.us,0) (0,0,0,0,0,0,0,[],e)):=by
 unfold F_wlvref18_Parse
 rw [Nat.ble_eq_true_of_le hl,cond_true,h,Option.bind_some]
 dsimp only
 cases hd:decide (e=0) with
 | true=>
  have hs:=hs (of_decide_eq_true hd)
  rw [cond_true,cond_true,hs.n 0 (by omega),hs.n 1 (by omega),hs.n 2 (by omega),hs.n 3 (by omega),hs.n 4 (by omega),hs.n 5 (by omega),hs.n 6 (by omega),hs.us]
  rfl
 | false=>
  have hne:=of_decide_eq_false hd
  unfold Res at he
  rw [cond_false,cond_false,decide_eq_true (show 0 < e by omega),decide_eq_true he.2]
  rfl
theorem find_same {us:List UserD} (hg:∀ u∈us,UGood u) (h16:us.length<=16) (c0 c1 c2 c3 c4 c5 c6:Int) (s:List Int) :
  ∃ r,F_conf_Find c0 c1 c2 c3 c4 c5 c6 us s=some r /\ F_wlvref18_Find c0 c1 c2 c3 c4 c5 c6 us s=some r:=by
 have key:∀ m i:Nat,i+m=us.length -> ∀ q,(∃ y,loopC (F_conf_Find_L3 us s) ((i:Int),q)=some (.inl y) /\ loopC (F_wlvref18_Find_L3 us s) ((i:Int),q)=some (.inl y)) \/ ∃ z,loopC (F_conf_Find_L3 us s) ((i:Int),q)=some (.inr z) /\ loopC (F_wlvref18_Find_L3 us s) ((i:Int),q)=some (.inr z):=by
  intro m
  induction m with
  | zero=>
   intro i hi q
   refine .inr ⟨q,loop_inl ?_,loop_inl ?_⟩
   ·unfold F_conf_Find_L3
    dsimp only
    rw [decide_eq_false (by omega),cond_false]
   ·unfold F_wlvref18_Find_L3
    dsimp only
    rw [decide_eq_false (by omega),cond_false]
  | succ m ih=>
   intro i hi q
   have hget:us[i]? = some us[i]:=List.getElem?_eq_getElem (by omega)
   cases hq:us[i].1==s with
   | true=>
    refine .inl ⟨(us[i].1,us[i].2.1.1,us[i].2.1.2,us[i].2.2.1,us[i].2.2.2.1,us[i].2.2.2.2,true),loop_inl ?_,loop_inl ?_⟩
    ·unfold F_conf_Find_L3
     dsimp only
     rw [decide_eq_true (by omega),cond_true,getI_nat hget,Option.bind_some,hq,cond_true,copied_ok (hg _ (List.mem_of_getElem? hget)),Option.bind_some]
    ·unfold F_wlvref18_Find_L3
     dsimp only
     rw [decide_eq_true (by omega),cond_true,getI_nat hget,Option.bind_some,hq,cond_true,Option.bind_some]
   | false=>
    have e1:F_conf_Find_L3 us s ((i:Int),q)=some (.inr (((i+1:Nat):Int),q)):=by
     unfold F_conf_Find_L3
     dsimp only
     rw [decide_eq_true (by omega),cond_true,getI_nat hget,Option.bind_some,hq,cond_false,wrap_in (by omega) (by omega)]
     rfl
    have e2:F_wlvref18_Find_L3 us s ((i:Int),q)=some (.inr (((i+1:Nat):Int),q)):=by
     unfold F_wlvref18_Find_L3
     dsimp only
     rw [decide_eq_true (by omega),cond_true,getI_nat hget,Option.bind_some,hq,cond_false,wrap_in (by omega) (by omega)]
     rfl
    rcases ih (i+1) (by omega) q with ⟨y,h1,h2⟩ | ⟨z,h1,h2⟩
    ·exact .inl ⟨y,loop_inr e1 h1,loop_inr e2 h2⟩
    ·exact .inr ⟨z,loop_inr e1 h1,loop_inr e2 h2⟩
 unfold F_conf_Find F_wlvref18_Find
 rcases key us.length 0 (by omega) (([]:List Int),([]:List Int),([]:List Int),0,(0,0),([]:List RuleD)) with ⟨y,h1,h2⟩ | ⟨z,h1,h2⟩
 ·exact ⟨y,join_inl h1,join_inl h2⟩
 ·exact ⟨_,(join_inr h1).trans rfl,(join_inr h2).trans rfl⟩
theorem rules_any (l m:List RuleD) (hl:l.length<=100000) (hm:l.length=m.length):∀ (k i:Nat),i+k=l.length -> ∃ r,loopC (F_slices_Equal_conf_Rule_conf_Rule_L6 l m) (i:Int)=some r
 | 0,i,h=>by
  refine ⟨_,loop_inl (r:=.inr ()) ?_⟩
  unfold F_slices_Equal_conf_Rule_conf_Rule_L6
  dsimp only
  rw [decide_eq_false (by omega),cond_false]
 | k+1,i,h=>by
  obtain ⟨r,ih⟩:=rules_any l m hl hm k (i+1) (by omega)
  have h1:l[i]? = some l[i]:=List.getElem?_eq_getElem (by omega)
  have h2:m[i]? = some m[i]:=List.getElem?_eq_getElem (by omega)
  have e:∃ b:Bool,F_slices_Equal_conf_Rule_conf_Rule_L6 l m (i:Int)=cond b (some (.inl (.inl false))) (some (.inr ((i+1:Nat):Int))):=by
   unfold F_slices_Equal_conf_Rule_conf_Rule_L6
   dsimp only
   rw [decide_eq_true (by omega),cond_true,getI_nat h1,getI_nat h2,Option.bind_some,Option.bind_some,wrap_in (by omega) (by omega)]
   exact ⟨_,rfl⟩
  obtain ⟨b,e⟩:=e
  cases b with
  | true=>exact ⟨_,loop_inl e⟩
  | false=>exact ⟨r,loop_inr e ih⟩
theorem equal_any (l m:List RuleD) (hl:l.length<=100000):∃ b,F_slices_Equal_conf_Rule_conf_Rule l m=some b:=by
 unfold F_slices_Equal_conf_Rule_conf_Rule
 by_cases h:l.length=m.length
 ·rw [show ((l.length:Int) != (m.length:Int))=false by rw [h];exact bne_self_eq_false _,cond_false]
  obtain ⟨r,hr⟩:=rules_any l m hl h l.length 0 (by omega)
  rw [show loopC (F_slices_Equal_conf_Rule_conf_Rule_L6 l m) (0:Int)=some r from hr]
  cases r with
  | inl b=>exact ⟨b,rfl⟩
  | inr z=>exact ⟨true,rfl⟩
 ·rw [show ((l.length:Int) != (m.length:Int))=true from bne_iff_ne.2 (by omega),cond_true]
  exact ⟨_,rfl⟩
theorem sameU_eq (u v:UserD):sameU u v=F_wlvref18_sameUser u.1 u.2.1.1 u.2.1.2 u.2.2.1 u.2.2.2.1 u.2.2.2.2 v.1 v.2.1.1 v.2.1.2 v.2.2.1 v.2.2.2.1 v.2.2.2.2:=by
 unfold sameU F_conf_Same_1 F_wlvref18_sameUser F_wlvref_Bytes F_bytes_Equal
 simp only [Option.bind_some,bne]
 rw [show F_wlvref18_sameUser_L6=F_slices_Equal_conf_Rule_conf_Rule_L6 from rfl,show F_wlvref18_sameUser_J4=F_slices_Equal_conf_Rule_conf_Rule_J4 from rfl]
 have hq:((F_slices_Equal_conf_Rule_conf_Rule u.2.2.2.2 v.2.2.2.2).bind fun b15=>some b15)=cond (!((u.2.2.2.2.length:Int)==(v.2.2.2.2.length:Int))) (some false) (joinC (S:=Unit) (R:=Bool) (loopC (S:=Int) (R:=(Bool)⊕(Unit)) (F_slices_Equal_conf_Rule_conf_Rule_L6 u.2.2.2.2 v.2.2.2.2) 0) F_slices_Equal_conf_Rule_conf_Rule_J4):=by
  rw [show ∀ x:Option Bool,(x.bind fun b=>some b)=x from fun x=>by cases x <;> rfl]
  rfl
 rw [hq]
 cases u.1==v.1 with
 | false=>rfl
 | true=>
  cases u.2.1.1==v.2.1.1 with
  | false=>rfl
  | true=>
   cases u.2.1.2==v.2.1.2 with
   | false=>rfl
   | true=>
    cases u.2.2.1==v.2.2.1 with
    | false=>rfl
    | true=>
     cases (feq .f64 u.2.2.2.1.1 v.2.2.2.1.1&&feq .f64 u.2.2.2.1.2 v.2.2.2.1.2) with
     | false=>rfl
     | true=>rfl
theorem sameU_any {u v:UserD} (h:UGood u):∃ b,sameU u v=some b:=by
 obtain ⟨b,hb⟩:=equal_any u.2.2.2.2 v.2.2.2.2 (by have:=h.many;omega)
 unfold sameU F_conf_Same_1 F_bytes_Equal
 rw [hb]
 simp only [Option.bind_some]
 cases u.1==v.1 with
 | false=>exact ⟨_,rfl⟩
 | true=>
  cases u.2.1.1==v.2.1.1 with
  | false=>exact ⟨_,rfl⟩
  | true=>
   cases u.2.1.2==v.2.1.2 with
   | false=>exact ⟨_,rfl⟩
   | true=>
    cases u.2.2.1==v.2.2.1 with
    | false=>exact ⟨_,rfl⟩
    | true=>
     cases (feq .f64 u.2.2.2.1.1 v.2.2.2.1.1&&feq .f64 u.2.2.2.1.2 v.2.2.2.1.2) with
     | false=>exact ⟨_,rfl⟩
     | true=>exact ⟨_,rfl⟩
theorem users_same {us vs:List UserD} (h16:us.length<=16) (hl:us.length=vs.length) (hg:∀ u∈us,UGood u):∀ (m i:Nat),i+m=us.length -> ∃ b,eqfL (us.drop i) (vs.drop i)=some b /\ loopC (F_wlvref18_Same_L6 us vs) (i:Int)=some (cond b (.inr ()) (.inl false))
 | 0,i,hm=>by
  rw [List.drop_eq_nil_of_le (by omega)]
  refine ⟨true,rfl,loop_inl ?_⟩
  unfold F_wlvref18_Same_L6
  dsimp only
  rw [decide_eq_false (by omega),cond_false]
  rfl
 | m+1,i,hm=>by
  obtain ⟨b,h1,h2⟩:=users_same h16 hl hg m (i+1) (by omega)
  have e1:us[i]? = some us[i]:=List.getElem?_eq_getElem (by omega)
  have e2:vs[i]? = some vs[i]:=List.getElem?_eq_getElem (by omega)
  rw [List.drop_eq_getElem_cons (by omega:i < us.length),List.drop_eq_getElem_cons (by omega:i < vs.length)]
  obtain ⟨c,hc⟩:=sameU_any (v:=vs[i]) (hg us[i] (List.mem_of_getElem? e1))
  have e3:F_wlvref18_Same_L6 us vs (i:Int)=cond c (some (.inr ((i+1:Nat):Int))) (some (.inl (.inl false))):=by
   unfold F_wlvref18_Same_L6
   dsimp only
   rw [decide_eq_true (by omega),cond_true,getI_nat e1,getI_nat e2,Option.bind_some,Option.bind_some,<- sameU_eq,hc,Option.bind_some,wrap_in (by omega) (by omega)]
   cases c <;> rfl
  show ∃ b,((sameU us[i] vs[i]).bind fun b=>cond b (eqfL (us.drop (i+1)) (vs.drop (i+1))) (some false))=some b /\ _
  rw [hc,Option.bind_some,h1]
  cases c with
  | false=>exact ⟨false,rfl,loop_inl e3⟩
  | true=>exact ⟨b,rfl,loop_inr e3 h2⟩
theorem same_same (c0 c1 c2 c3 c4 c5 c6 d0 d1 d2 d3 d4 d5 d6:Int) {us vs:List UserD} (h16:us.length<=16) (hg:∀ u∈us,UGood u) :
  ∃ b,F_conf_Same c0 c1 c2 c3 c4 c5 c6 us d0 d1 d2 d3 d4 d5 d6 vs=some b /\ F_wlvref18_Same c0 c1 c2 c3 c4 c5 c6 us d0 d1 d2 d3 d4 d5 d6 vs=some b:=by
 unfold F_conf_Same
 rw [Nat.ble_eq_true_of_le (by omega),cond_true]
 unfold sameC
 rw [show ((List.range 7).all fun k=>seven c0 c1 c2 c3 c4 c5 c6 k==seven d0 d1 d2 d3 d4 d5 d6 k)=(c0==d0&&(c1==d1&&(c2==d2&&(c3==d3&&(c4==d4&&(c5==d5&&(c6==d6&&true))))))) from rfl]
 have hR:∃ b,eqfP us vs=some b /\ cond (!((us.length:Int)==(vs.length:Int))) (some false) (joinC (S:=Unit) (R:=Bool) (loopC (S:=Int) (R:=(Bool)⊕(Unit)) (F_wlvref18_Same_L6 us vs) 0) (F_wlvref18_Same_J4))=some b:=by
  unfold eqfP
  by_cases h:us.length=vs.length
  ·obtain ⟨b,h1,h2⟩:=users_same h16 h hg us.length 0 (by omega)
   rw [show Nat.beq us.length vs.length=true by rw [h];simp,cond_true,show ((us.length:Int)==(vs.length:Int))=true by rw [h];exact beq_self_eq_true _,show loopC (F_wlvref18_Same_L6 us vs) (0:Int)=_ from h2]
   exact ⟨b,h1,by cases b <;> rfl⟩
  ·rw [show Nat.beq us.length vs.length=false from Bool.eq_false_iff.2 fun e=>h (Nat.eq_of_beq_eq_true e),cond_false,show ((us.length:Int)==(vs.length:Int))=false from beq_eq_false_iff_ne.2 (by omega)]
   exact ⟨false,rfl,rfl⟩
 obtain ⟨b,h1,h2⟩:=hR
 unfold F_wlvref18_Same
 simp only [bne]
 rw [h1,h2]
 cases c0==d0 with
 | false=>exact ⟨false,rfl,rfl⟩
 | true=>
 cases c1==d1 with
 | false=>exact ⟨false,rfl,rfl⟩
 | true=>
 cases c2==d2 with
 | false=>exact ⟨false,rfl,rfl⟩
 | true=>
 cases c3==d3 with
 | false=>exact ⟨false,rfl,rfl⟩
 | true=>
 cases c4==d4 with
 | false=>exact ⟨false,rfl,rfl⟩
 | true=>
 cases c5==d5 with
 | false=>exact ⟨false,rfl,rfl⟩
 | true=>
 cases c6==d6 with
 | false=>exact ⟨false,rfl,rfl⟩
 | true=>exact ⟨b,rfl,rfl⟩
theorem chkb {α:Type} {x:Option α} {n:Nat} (h:n<=1000000):chk (Nat.ble n maxLen) x=x:=by
 have hm:maxLen=9223372036854775807:=rfl
 unfold chk
 rw [Nat.ble_eq_true_of_le (by omega),cond_true]
theorem dec_itoa {z:Int} (h0:0<=z) (h1:z<=9223372036854775807):F_wlvref_Dec z=some (itoaI z):=by
 rw [Dec_eq z h1]
 obtain ⟨n,rfl⟩:∃ n:Nat,z=(n:Int):=⟨z.toNat,by omega⟩
 rw [Int.toNat_natCast,itoa_dgs]
theorem rs_hexbyte:∀ q:Fin 256,getI ([48,49,50,51,52,53,54,55,56,57,97,98,99,100,101,102]:List Int) (Int.fdiv (q.val:Int) (2 ^ 4))=some ((hx2 (q.val:Int)).getD 0 0) /\ getI ([48,49,50,51,52,53,54,55,56,57,97,98,99,100,101,102]:List Int) (bits .and .u8 (q.val:Int) 15)=some ((hx2 (q.val:Int)).getD 1 0) /\ hx2 (q.val:Int)=[(hx2 (q.val:Int)).getD 0 0,(hx2 (q.val:Int)).getD 1 0]:=by decide +kernel
theorem rs_hex_loop (l:List Int) (hb:∀ x∈l,0<=x /\ x < 256) (hl:l.length<=100000):∀ (k i:Nat),i+k=l.length->loopC (F_wlvref18_Hex_L4 l) (hexT (l.take i),(i:Int))=some (.inr (hexT l))
 | 0,i,h=>by
  refine loop_inl ?_
  unfold F_wlvref18_Hex_L4
  dsimp only
  rw [decide_eq_false (show ¬ (i:Int) < (l.length:Int) by omega),cond_false,List.take_of_length_le (by omega)]
 | k+1,i,h=>by
  have hlt:i < l.length:=by omega
  have hget:l[i]? = some l[i]:=List.getElem?_eq_getElem hlt
  have hm:=hb _ (List.getElem_mem hlt)
  refine loop_inr (s':=(hexT (l.take (i+1)),((i+1:Nat):Int))) ?_ (rs_hex_loop l hb hl k (i+1) (by omega))
  generalize l[i]=x at hget hm
  obtain ⟨t1,t2,t3⟩:=rs_hexbyte ⟨x.toNat,by omega⟩
  simp only [show ((x.toNat:Nat):Int)=x by omega] at t1 t2 t3
  unfold F_wlvref18_Hex_L4
  dsimp only
  rw [decide_eq_true (show (i:Int) < (l.length:Int) by omega),cond_true,getI_nat hget,Option.bind_some,t1,Option.bind_some,Option.bind_some,t2,Option.bind_some,<- t3]
  have e:hexT (l.take (i+1))=hexT (l.take i)++hx2 x:=by
   rw [List.take_add_one,hget,hexT_app]
   show _++hexT [x]=_
   rw [hexT_cons,show hexT []=[] from rfl,List.append_nil]
  have hm:maxLen=9223372036854775807:=rfl
  have e1:decide (((hexT (l.take i)).length+(hx2 x).length)*1<=140737488355328)=true:=decide_eq_true (by rw [hexT_ln,List.length_take,t3];show (2*min i l.length+2)*1<=_;omega)
  have e2:decide ((hexT (l.take i)).length+(hx2 x).length<=maxLen)=true:=decide_eq_true (by rw [hexT_ln,List.length_take,t3];show 2*min i l.length+2<=_;omega)
  unfold chk
  rw [e1,e2,Bool.and_self,cond_true,wrap_in (by omega) (by omega),e]
  rfl
theorem rs_hex {l:List Int} (hb:∀ x∈l,0<=x /\ x < 256) (hl:l.length<=100000):F_wlvref18_Hex l=some (hexT l):=by
 unfold F_wlvref18_Hex
 rw [join_inr (show loopC (F_wlvref18_Hex_L4 l) (([]:List Int),0)=some (.inr (hexT l)) from rs_hex_loop l hb hl l.length 0 (by omega))]
 rfl
theorem toI_fl {n:Int} (h:Cnt n):ftoI .f64 .i64 (fl n)=some n /\ ((fgt .f64 (fl n) 0||feq .f64 (fl n) 0)&&(flt .f64 (fl n) 4832362400168542208||feq .f64 (fl n) 4832362400168542208))=true:=by
 have hc:=count_fl h
 unfold F_tally_count at hc
 cases h1:((fgt .f64 (fl n) 0||feq .f64 (fl n) 0)&&(flt .f64 (fl n) 4832362400168542208||feq .f64 (fl n) 4832362400168542208)) with
 | false=>
  rw [h1] at hc
  cases hc
 | true=>
  rw [h1] at hc
  refine ⟨?_,rfl⟩
  have hc:((ftoI .f64 .i64 (fl n)).bind fun i2=>some (i2,(feq .f64 (foI .f64 i2) (fl n))))=some (n,true):=hc
  obtain ⟨m,e1,e2⟩:=Option.bind_eq_some_iff.1 hc
  injection e2 with e2
  obtain ⟨rfl,_⟩:=Prod.mk.inj e2
  exact e1
theorem part_fl {n:Int} (h:Cnt n):F_wlvref1_part (fl n)=some true:=by
 obtain ⟨h1,h2⟩:=toI_fl h
 unfold F_wlvref1_part
 rw [h2,h1,cond_true,Option.bind_some]
 exact congrArg some (feq_r h)
theorem rup_fl {a b:Int} (ha:Cnt a) (hb:Cnt b):F_wlvref1_Up (fl a,fl b)=some a /\ F_wlvref1_Down (fl a,fl b)=some b:=by
 unfold F_wlvref1_Up F_wlvref1_Down F_wlvref1_Is
 dsimp only
 rw [part_fl ha,part_fl hb,(toI_fl ha).1,(toI_fl hb).1]
 exact ⟨rfl,rfl⟩
theorem words_step {l:List Int} {i:Nat} {x:Int} {acc:List Int} (hx:l[i]? = some x) (h0:0<=x) (h1:x<=9223372036854775807) (ha:acc.length<=100000) (hi:i<=1000):F_wlvref_Words_L3 l (acc,(i:Int))=some (.inr (acc++([32]++itoaI x),((i+1:Nat):Int))):=by
 have hl:=(List.getElem?_eq_some_iff.1 hx).1
 have hz:=itoa_ln x (by omega) h1
 unfold F_wlvref_Words_L3
 dsimp only
 rw [decide_eq_true (by omega),cond_true,getI_nat hx,Option.bind_some,dec_itoa h0 h1,Option.bind_some,chkb (by simp only [List.length_cons,List.length_nil];omega),chkb (by simp only [List.length_append,List.length_cons,List.length_nil];omega),wrap_in (by omega) (by omega)]
 rfl
theorem words_3 {s:List Int} {a b c:Int} (hs:s.length<=10000) (ha:0<=a /\ a<=9223372036854775807) (hb:0<=b /\ b<=9223372036854775807) (hc:0<=c /\ c<=9223372036854775807):F_wlvref_Words s [a,b,c]=some (s++32::(itoaI a++32::(itoaI b++32::itoaI c))):=by
 have la:=itoa_ln a (by omega) ha.2
 have lb:=itoa_ln b (by omega) hb.2
 have h1:=words_step (l:=[a,b,c]) (i:=0) (acc:=s) rfl ha.1 ha.2 (by omega) (by omega)
 have h2:=words_step (l:=[a,b,c]) (i:=1) (acc:=s++([32]++itoaI a)) rfl hb.1 hb.2 (by simp only [List.length_append,List.length_cons,List.length_nil];omega) (by omega)
 have h3:=words_step (l:=[a,b,c]) (i:=2) (acc:=s++([32]++itoaI a)++([32]++itoaI b)) rfl hc.1 hc.2 (by simp only [List.length_append,List.length_cons,List.length_nil];omega) (by omega)
 unfold F_wlvref_Words
 rw [join_inr (show loopC (F_wlvref_Words_L3 [a,b,c]) (s,(0:Int))=some (.inr (s++([32]++itoaI a)++([32]++itoaI b)++([32]++itoaI c))) from loop_inr h1 (loop_inr h2 (loop_inr h3 (loop_inl (by
  unfold F_wlvref_Words_L3
  dsimp only
  rw [show decide (((2+1:Nat):Int) < (([a,b,c]:List Int).length:Int))=false from rfl,cond_false]))))) ]
 unfold F_wlvref_Words_J1
 simp only [List.append_assoc,List.cons_append,List.nil_append]
theorem pr_text (al:Bool) (nm p q:List Int):ruleLine al nm p q=cond al ((((([97,108,108,111,119,32]++nm)++[32])++p)++[32])++q) ((((([100,101,110,121,32]++nm)++[32])++p)++[32])++q):=by
 unfold ruleLine lbA lbD
 cases al <;> simp only [cond_true,cond_false,List.append_assoc,List.cons_append,List.nil_append]
set_option maxHeartbeats 4000000 in
theorem pr_eq {r:RuleD} (h:RuleOk r) {nm:List Int} (hn:nm.length<=64):F_wlvref18_printRule nm r.1 r.2.1 r.2.2.1 r.2.2.2.1.1 r.2.2.2.1.2 r.2.2.2.2.1 r.2.2.2.2.2=some (rl nm r):=by
 obtain ⟨al,k,hh,⟨ip,b⟩,f,t⟩:=r
 obtain ⟨hp,h1,h2,h3⟩:=h
 have hp:PatOk k hh ip b:=hp
 have h1:1<=f:=h1
 have h2:f<=t:=h2
 have h3:t<=65535:=h3
 have lf:=itoa_ln f (by omega) (by omega)
 have lt:=itoa_ln t (by omega) (by omega)
 have pl:=(pat_back hp).2.2
 show F_wlvref18_printRule nm al k hh ip b f t=some (ruleLine al nm (patT k hh ip b) (spanT f t))
 rw [pr_text]
 unfold F_wlvref18_printRule
 rw [dec_itoa (show 0<=f by omega) (by omega),dec_itoa (show 0<=t by omega) (by omega)]
 simp only [Option.bind_some]
 have hnet:k=3->F_wlvref15_PrintNet ip b=some (patT k hh ip b):=fun e=>by
  cases hp with
  | any=>cases e
  | suffix m h=>cases e
  | within ip b h=>
   have hl16:(ip.length:Int)<=16:=by rcases h.len with q | q <;> omega
   have hhi:=h.hi
   exact refPrintNet_eq ip b h.byte h.lo (by omega)
  | just m h hp=>cases e
 have hp0:k=0->patT k hh ip b=[42]:=fun e=>by rw [e];rfl
 have hp1:k≠0->k≠3->patT k hh ip b=hh:=fun e1 e2=>by
  unfold patT
  rw [beq_eq_false_iff_ne.2 e1,beq_eq_false_iff_ne.2 e2]
  rfl
 unfold spanT
 generalize patT k hh ip b=P at pl hnet hp0 hp1 ⊢
 have fin:∀ (w q:List Int),w.length<=6->q.length<=100 -> ∀ (P:List Int),P.length<=300->chk (Nat.ble (w.length+nm.length) maxLen) (chk (Nat.ble ((w++nm).length+([32]:List Int).length) maxLen) (chk (Nat.ble (((w++nm)++([32]:List Int)).length+P.length) maxLen) (chk (Nat.ble ((((w++nm)++([32]:List Int))++P).length+([32]:List Int).length) maxLen) (chk (Nat.ble (((((w++nm)++([32]:List Int))++P)++([32]:List Int)).length+q.length) maxLen) (some (((((w++nm)++([32]:List Int))++P)++([32]:List Int))++q))))))=some (((((w++nm)++([32]:List Int))++P)++([32]:List Int))++q):=fun w q hw hq P hP=>by
  rw [chkb (by omega),chkb (by simp only [List.length_append,List.length_cons,List.length_nil];omega),chkb (by simp only [List.length_append,List.length_cons,List.length_nil];omega),chkb (by simp only [List.length_append,List.length_cons,List.length_nil];omega),chkb (by simp only [List.length_append,List.length_cons,List.length_nil];omega)]
 have two:∀ {α:Type} (x:Option α),chk (Nat.ble (([45]:List Int).length+(itoaI t).length) maxLen) (chk (Nat.ble ((itoaI f).length+(([45]:List Int)++itoaI t).length) maxLen) x)=x:=fun x=>by
  rw [chkb (by simp only [List.length_cons,List.length_nil];omega),chkb (by simp only [List.length_append,List.length_cons,List.length_nil];omega)]
 simp only [two]
 have l42:([42]:List Int).length<=100:=by decide
 have lft:(itoaI f++(([45]:List Int)++itoaI t)).length<=100:=by simp only [List.length_append,List.length_cons,List.length_nil];omega
 have lf':(itoaI f).length<=100:=by omega
 have w1:([97,108,108,111,119,32]:List Int).length<=6:=by decide
 have w2:([100,101,110,121,32]:List Int).length<=6:=by decide
 by_cases k0:k=0
 ·have e0:(k==0)=true:=beq_iff_eq.2 k0
  have eP:=hp0 k0
  subst eP
  have l300:([42]:List Int).length<=300:=by decide
  simp only [e0,cond_true,fin _ _ w1 l42 _ l300,fin _ _ w1 lft _ l300,fin _ _ w1 lf' _ l300,fin _ _ w2 l42 _ l300,fin _ _ w2 lft _ l300,fin _ _ w2 lf' _ l300]
  cases al <;> cases f==1 <;> cases t==65535 <;> cases f != t <;> rfl
 ·have e0:(k==0)=false:=beq_eq_false_iff_ne.2 k0
  by_cases k3:k=3
  ·have e3:(k==3)=true:=beq_iff_eq.2 k3
   rw [hnet k3]
   simp only [e0,e3,cond_true,cond_false,Option.bind_some,fin _ _ w1 l42 _ pl,fin _ _ w1 lft _ pl,fin _ _ w1 lf' _ pl,fin _ _ w2 l42 _ pl,fin _ _ w2 lft _ pl,fin _ _ w2 lf' _ pl]
   cases al <;> cases f==1 <;> cases t==65535 <;> cases f != t <;> rfl
  ·have e3:(k==3)=false:=beq_eq_false_iff_ne.2 k3
   have eP:=hp1 k0 k3
   subst eP
   simp only [e0,e3,cond_false,fin _ _ w1 l42 _ pl,fin _ _ w1 lft _ pl,fin _ _ w1 lf' _ pl,fin _ _ w2 l42 _ pl,fin _ _ w2 lft _ pl,fin _ _ w2 lf' _ pl]
   cases al <;> cases f==1 <;> cases t==65535 <;> cases f != t <;> rfl
theorem prules_loop {u:UserD} (h:UGood u) (acc:List (List Int)) (ha:acc.length<=100000) (c0 c1 c2 c3 c4 c5 c6:Int) (us:List UserD):∀ (m i:Nat),i+m=u.2.2.2.2.length ->
  loopC F_wlvref18_Print_L19 (acc++(u.2.2.2.2.take i).map (rl u.1),(i:Int),c0,c1,c2,c3,c4,c5,c6,us,u.1,u.2.1.1,u.2.1.2,u.2.2.1,u.2.2.2.1,u.2.2.2.2)=some (.inr (acc++u.2.2.2.2.map (rl u.1),c0,c1,c2,c3,c4,c5,c6,us))
 | 0,i,hi=>by
  have:i=u.2.2.2.2.length:=by omega
  subst this
  refine loop_inl ?_
  unfold F_wlvref18_Print_L19
  dsimp only
  rw [decide_eq_false (by omega),cond_false,List.take_length]
 | m+1,i,hi=>by
  have hlt:i < u.2.2.2.2.length:=by omega
  have hmany:=h.many
  have hget:u.2.2.2.2[i]? = some u.2.2.2.2[i]:=List.getElem?_eq_getElem hlt
  have hr:=h.rules _ (List.mem_of_getElem? hget)
  have hl:(acc++(u.2.2.2.2.take i).map (rl u.1)).length+1<=1000000:=by
   rw [List.length_append,List.length_map,List.length_take]
   omega
  refine loop_inr ?_ (prules_loop h acc ha c0 c1 c2 c3 c4 c5 c6 us m (i+1) (by omega))
  unfold F_wlvref18_Print_L19
  dsimp only
  rw [decide_eq_true (by omega),cond_true,getI_nat hget,Option.bind_some,pr_eq hr h.ok.short,Option.bind_some,chk_n (by show _+1<=_;exact hl),wrap_in (by omega) (by omega)]
  rw [List.take_add_one,hget]
  show some (Sum.inr (acc++(u.2.2.2.2.take i).map (rl u.1)++[rl u.1 u.2.2.2.2[i]],_))=_
  rw [List.map_append,List.append_assoc]
  rfl
theorem pusers_loop {us:List UserD} (hus:∀ u∈us,UGood u) (h16:us.length<=16) (acc:List (List Int)) (ha:acc.length<=10000) (c0 c1 c2 c3 c4 c5 c6:Int):∀ (m i:Nat),i+m=us.length ->
  loopC F_wlvref18_Print_L12 (acc++(us.take i).flatMap uLines,(i:Int),c0,c1,c2,c3,c4,c5,c6,us)=some (.inr (acc++us.flatMap uLines))
 | 0,i,hi=>by
  have:i=us.length:=by omega
  subst this
  refine loop_inl ?_
  unfold F_wlvref18_Print_L12
  dsimp only
  rw [decide_eq_false (by omega),cond_false,List.take_length]
 | m+1,i,hi=>by
  have hlt:i < us.length:=by omega
  have hget:us[i]? = some us[i]:=List.getElem?_eq_getElem hlt
  have hu:=hus _ (List.mem_of_getElem? hget)
  refine loop_inr ?_ (pusers_loop hus h16 acc ha c0 c1 c2 c3 c4 c5 c6 m (i+1) (by omega))
  have hacc:(acc++(us.take i).flatMap uLines).length<=12000:=by
   have key:∀ l:List UserD,(∀ u∈l,UGood u)->(l.flatMap uLines).length<=65*l.length:=by
    intro l
    induction l with
    | nil=>intro _;simp
    | cons v l ih=>
     intro hv
     rw [List.flatMap_cons,List.length_append,List.length_cons]
     have:=uLines_len (hv v (by simp))
     have:=ih fun u hu=>hv u (by simp [hu])
     omega
   have h1:=key (us.take i) fun u hu=>hus u (List.mem_of_mem_take hu)
   rw [List.length_take] at h1
   rw [List.length_append]
   omega
  rw [List.take_add_one,hget]
  generalize hv:us[i]=u at hget hu
  generalize hA:acc++(us.take i).flatMap uLines=A at hacc
  obtain ⟨_,_,k1,k2,kz⟩:=upd_of hu
  obtain ⟨r1,r2⟩:=rup_fl k1 k2
  rw [<-kz] at r1 r2
  have s1:=hu.ok.short
  have s2:=hu.ok.saltl
  have s3:=hu.ok.digl
  have s4:=hu.ok.many
  have x1:=k1.1
  have x2:=k1.2
  have y1:=k2.1
  have y2:=k2.2
  have hsl:=hexT_ln u.2.1.1
  have hdl:=hexT_ln u.2.1.2
  have hW:=words_3 (s:=((((([117,115,101,114,32]:List Int)++u.1)++([32]:List Int))++hexT u.2.1.1)++([32]:List Int))++hexT u.2.1.2) (a:=u.2.2.1) (b:=upI u.2.2.2.1) (c:=dnI u.2.2.2.1) (by simp only [List.length_append,List.length_cons,List.length_nil];omega) ⟨by omega,by omega⟩ ⟨by omega,by omega⟩ ⟨by omega,by omega⟩
  have hline:((((([117,115,101,114,32]:List Int)++u.1)++([32]:List Int))++hexT u.2.1.1)++([32]:List Int))++hexT u.2.1.2++32::(itoaI u.2.2.1++32::(itoaI (upI u.2.2.2.1)++32::itoaI (dnI u.2.2.2.1)))=userLine u.1 u.2.1.1 u.2.1.2 u.2.2.1 (upI u.2.2.2.1) (dnI u.2.2.2.1):=by
   unfold userLine lbU
   simp only [List.append_assoc,List.cons_append,List.nil_append]
  rw [hline] at hW
  have hin:=prules_loop hu (A++[userLine u.1 u.2.1.1 u.2.1.2 u.2.2.1 (upI u.2.2.2.1) (dnI u.2.2.2.1)]) (by rw [List.length_append];show _+1<=_;omega) c0 c1 c2 c3 c4 c5 c6 us u.2.2.2.2.length 0 (by omega)
  rw [List.take_zero,List.map_nil,List.append_nil] at hin
  unfold F_wlvref18_Print_L12
  dsimp only
  rw [decide_eq_true (by omega),cond_true,getI_nat hget,Option.bind_some,chkb (by simp only [List.length_cons,List.length_nil];omega),chkb (by simp only [List.length_append,List.length_cons,List.length_nil];omega),rs_hex hu.ok.salt (by omega),Option.bind_some,chkb (by simp only [List.length_append,List.length_cons,List.length_nil];omega),chkb (by simp only [List.length_append,List.length_cons,List.length_nil];omega),rs_hex hu.ok.dig (by omega),Option.bind_some,chkb (by simp only [List.length_append,List.length_cons,List.length_nil];omega),r1,Option.bind_some,r2,Option.bind_some,hW,Option.bind_some,chk_n (by show _+1<=_;omega)]
  rw [join_inr (show loopC F_wlvref18_Print_L19 (A++[userLine u.1 u.2.1.1 u.2.1.2 u.2.2.1 (upI u.2.2.2.1) (dnI u.2.2.2.1)],0,c0,c1,c2,c3,c4,c5,c6,us,u.1,u.2.1.1,u.2.1.2,u.2.2.1,u.2.2.2.1,u.2.2.2.2)=_ from hin)]
  unfold F_wlvref18_Print_J15
  dsimp only
  rw [wrap_in (by omega) (by omega),List.flatMap_append,<- List.append_assoc,hA]
  show some (Sum.inr (_,_))=_
  rw [show List.flatMap uLines (some u).toList=userLine u.1 u.2.1.1 u.2.1.2 u.2.2.1 (upI u.2.2.2.1) (dnI u.2.2.2.1)::u.2.2.2.2.map (rl u.1) from by
   show uLines u++[]=_
   rw [List.append_nil];rfl,List.append_assoc]
  rfl
theorem plim_loop {x:RSt} (hx:∀ k,k < 7->limLo k<=x.lim k /\ x.lim k<=limHi k) (us:List UserD) (c0 c1 c2 c3 c4 c5 c6:Int):∀ (m i:Nat),i+m=7 ->
  loopC F_wlvref18_Print_L6 (rfNames,([x.c0,x.c1,x.c2,x.c3,x.c4,x.c5,x.c6]:List Int),((List.range i).map fun k=>limLine k (x.lim k)),(i:Int),c0,c1,c2,c3,c4,c5,c6,us)=some (.inr (limLines x.lim,c0,c1,c2,c3,c4,c5,c6,us))
 | 0,i,hi=>by
  have:i=7:=by omega
  subst this
  refine loop_inl ?_
  rfl
 | m+1,i,hi=>by
  have hi7:i < 7:=by omega
  refine loop_inr (s':=(rfNames,([x.c0,x.c1,x.c2,x.c3,x.c4,x.c5,x.c6]:List Int),((List.range (i+1)).map fun k=>limLine k (x.lim k)),((i+1:Nat):Int),c0,c1,c2,c3,c4,c5,c6,us)) ?_ (plim_loop hx us c0 c1 c2 c3 c4 c5 c6 m (i+1) (by omega))
  obtain ⟨l1,l2⟩:=hx i hi7
  obtain ⟨l3,l4⟩:=limHi_le i hi7
  have hn:getI rfNames (i:Int)=some (bytesL (limW i)):=getI_nat (rfNames_lim i hi7)
  have hv:getI ([x.c0,x.c1,x.c2,x.c3,x.c4,x.c5,x.c6]:List Int) (i:Int)=some (x.lim i):=by
   refine getI_nat ?_
   match i,hi7 with
   | 0,_=>rfl
   | 1,_=>rfl
   | 2,_=>rfl
   | 3,_=>rfl
   | 4,_=>rfl
   | 5,_=>rfl
   | 6,_=>rfl
  have hw:=(word_no i hi7).2.1
  have hz:=itoa_ln (x.lim i) (by omega) (by omega)
  unfold F_wlvref18_Print_L6
  dsimp only
  rw [decide_eq_true (by omega),cond_true,hn,Option.bind_some,chkb (by simp only [List.length_cons,List.length_nil];omega),chkb (by simp only [List.length_append,List.length_cons,List.length_nil];omega),hv,Option.bind_some,dec_itoa (by omega) (by omega),Option.bind_some,chkb (by simp only [List.length_append,List.length_cons,List.length_nil];omega),chk_n (by rw [List.length_map,List.length_range];show i+1<=_;omega),wrap_in (by omega) (by omega),List.range_succ,List.map_append]
  rfl
theorem rprint_eq {x:RSt} (hx:Good x):F_wlvref18_Print x.c0 x.c1 x.c2 x.c3 x.c4 x.c5 x.c6 x.us=some (printL x):=by
 have hfew:=hx.few
 have h1:=plim_loop hx.lim x.us x.c0 x.c1 x.c2 x.c3 x.c4 x.c5 x.c6 7 0 rfl
 have hll:(limLines x.lim).length=7:=rfl
 have h2:=pusers_loop hx.each hx.few (limLines x.lim) (by omega) x.c0 x.c1 x.c2 x.c3 x.c4 x.c5 x.c6 x.us.length 0 (by omega)
 rw [List.take_zero,List.flatMap_nil,List.append_nil] at h2
 unfold F_wlvref18_Print
 rw [show F_wlvref18_limits=some (rfNames,rfMost) from rfl,Option.bind_some]
 rw [join_inr (show loopC F_wlvref18_Print_L6 (rfNames,([x.c0,x.c1,x.c2,x.c3,x.c4,x.c5,x.c6]:List Int),([]:List (List Int)),0,x.c0,x.c1,x.c2,x.c3,x.c4,x.c5,x.c6,x.us)=_ from h1)]
 unfold F_wlvref18_Print_J4
 dsimp only
 rw [join_inr (show loopC F_wlvref18_Print_L12 (limLines x.lim,0,x.c0,x.c1,x.c2,x.c3,x.c4,x.c5,x.c6,x.us)=_ from h2)]
 rfl
theorem first180:F_wlvlaw18_first0=some true:=rfl
theorem ConfPrints_true (l m:List (List Int)) (s:List Int):F_wlvlaw18_ConfPrints l m s=some true:=by
 unfold F_wlvlaw18_ConfPrints
 obtain ⟨b,hf,hfew⟩:=few_spec l
 obtain ⟨c,hf2,hfew2⟩:=few_spec m
 rw [first180,Option.bind_some,Bool.not_true,cond_false,hf,Option.bind_some]
 cases b with
 | false=>rfl
 | true=>
 rw [Bool.not_true,cond_false,hf2,Option.bind_some]
 cases c with
 | false=>rfl
 | true=>
 rw [Bool.not_true,Bool.false_or]
 cases decide ((s.length:Int) > 1000) with
 | true=>rfl
 | false=>
 rw [cond_false]
 obtain ⟨h300,hsh⟩:=hfew rfl
 obtain ⟨m300,msh⟩:=hfew2 rfl
 obtain ⟨x,y,e,h1,h2,h3,h4⟩:=rs_parse l good_rst0 sim_0 hsh
 obtain ⟨x',y',e',g1,g2,g3,g4⟩:=rs_parse m good_rst0 sim_0 msh
 rw [rparse_eq (x:=x) (by omega) h2 h3 fun h=>(h4 h).2,rparse_eq (x:=x') (by omega) g2 g3 fun h=>(g4 h).2,Option.bind_some,Option.bind_some]
 by_cases he:e=0
 ·subst he
  by_cases he':e'=0
  ·subst he'
   have hg:=(h4 rfl).1
   have hg':=(g4 rfl).1
   obtain ⟨r,f1,f2⟩:=find_same hg.each hg.few x.c0 x.c1 x.c2 x.c3 x.c4 x.c5 x.c6 s
   obtain ⟨z,s1,s2⟩:=same_same x.c0 x.c1 x.c2 x.c3 x.c4 x.c5 x.c6 x'.c0 x'.c1 x'.c2 x'.c3 x'.c4 x'.c5 x'.c6 (vs:=x'.us) hg.few hg.each
   rw [decide_eq_true rfl,cond_true,cond_true]
   dsimp only
   rw [show ((0:Int) != 0||(0:Int) != 0)=false from rfl,cond_false,f1,Option.bind_some,f2,Option.bind_some,Option.bind_some,cond_true,print_eq hg,Option.bind_some,rprint_eq hg,Option.bind_some,texts_refl _ (by have:=(printL_len hg).2;omega),Option.bind_some,cond_true,s1,Option.bind_some,s2,Option.bind_some,bEq_rr,bEq_rr,Bool.and_self,cond_true,beq_self_eq_true,cond_true,beq_self_eq_true,cond_true,beq_self_eq_true]
  ·rw [decide_eq_true rfl,cond_true,decide_eq_false he',cond_false]
   dsimp only
   rw [show (e' != 0)=true from bne_iff_ne.2 he',Bool.or_true]
   rfl
 ·rw [decide_eq_false he,cond_false]
  dsimp only
  rw [show (e != 0)=true from bne_iff_ne.2 he,Bool.true_or]
  rfl
end Go.Proofs.YtgfmfgombmpodaaGreatDoor
