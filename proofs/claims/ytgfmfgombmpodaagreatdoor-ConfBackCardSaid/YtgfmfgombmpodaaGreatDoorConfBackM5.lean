/- Texts of this claim, one behind the other. -/
import Derived.Test.YtgfmfgombmpodaaGreatDoorConfBackM4
import Derived.Lib.Builder
import Derived.Laws.ResultCell
import Derived.Laws.BitsLemmas
import Derived.Lib.ItoaMem
set_option maxRecDepth 100000
namespace Go.Proofs.YtgfmfgombmpodaaGreatDoor
open Go.RowKit Pv
set_option linter.unusedVariables false
theorem lm_walk {T : Tab} (hf : Facts T) {lo : Nat} {w : World} {R M : Nat} {v : Value} {role : Nat -> Role} {x : RSt} (h : RdAt lo w R M v role x) (hT : TabAt T w) (hlo : lo <= w.heap.size) {a : Option Addr} {n c : Nat} {ws : List ByteArray} (hn : ws.length = n) (hws : ∀ i s, ws[i]? = some s -> ∃ ad, a = some ad /\ w.cell? (ad.add i) = some (.string s) /\ s.size <= maxLen) (hno : ∀ ad, a = some ad -> role ad.block = .no) {x' : RSt} {e' : Bool} (hF : limitsP x (ws.map bytesL) = some (x', e')) :
    Calls Tryz.prog 95 #[.pointer (some ⟨R, 0, none⟩), .slice a n c] w fun e w' => LmPost lo R M x' e' e w w' := by
  by_cases h2 : n = 2
  · subst h2
    match ws, hn, hws, hF with
    | [s0, s1], _, hws, hF =>
    obtain ⟨ad, rfl, c0, z0⟩ := hws 0 s0 rfl
    obtain ⟨_, e1, c1, z1⟩ := hws 1 s1 rfl
    injection e1 with e1
    subst e1
    have c0 : w.cell? ad = some (.string s0) := by rw [lm_add_0] at c0; exact c0
    rw [lm_add_pos _ (by decide)] at c1
    have hF : cond (x.told.contains (bytesL s0)) (some (x, false)) (match limAt (bytesL s0) with
      | none => some (x, false)
      | some k => (F_conf_number (bytesL s1) (limLo k) (limHi k)).bind fun p => some (({ x.setLim k p.1 with told := x.told ++ [bytesL s0] } : RSt), p.2)) = some (x', e') := hF
    cases ht : x.told.contains (bytesL s0) with
    | true =>
      rw [ht] at hF
      injection hF with hF
      obtain ⟨rfl, rfl⟩ := Prod.mk.inj hF
      refine (lm_told h c0 ht).mono fun e w' ⟨q1, q2, q3⟩ => ⟨q1, q2, q3⟩
    | false =>
      rw [ht, cond_false] at hF
      exact lm_two hf h hT hlo c0 c1 z1 (hno ad rfl) ht hF
  · have hF : some (x, false) = some (x', e') := by
      rw [<- hF]
      match ws, hn with
      | [], _ => rfl
      | [_], _ => rfl
      | [_, _], hn => exact absurd hn.symm h2
      | _ :: _ :: _ :: _, _ => rfl
    injection hF with hF
    obtain ⟨rfl, rfl⟩ := Prod.mk.inj hF
    exact lm_few h2
theorem strs_of : ∀ (l : List (List Int)) (cur : Array Value), (∀ (i : Nat) (y : List Int), l[i]? = some y -> ∃ t : ByteArray, cur[i]? = some (.string t) /\ bytesL t = y /\ t.size <= maxLen) -> ∃ ws : List ByteArray, ws.map bytesL = l /\ ∀ (i : Nat) (t : ByteArray), ws[i]? = some t -> cur[i]? = some (.string t) /\ t.size <= maxLen := by
 intro l cur h
 have key : ∀ k, k <= l.length -> ∃ ws : List ByteArray, ws.map bytesL = l.take k /\ ∀ (i : Nat) (t : ByteArray), ws[i]? = some t -> cur[i]? = some (.string t) /\ t.size <= maxLen := by
  intro k
  induction k with
  | zero => exact fun _ => ⟨[], rfl, fun i t ht => by simp at ht⟩
  | succ k ih =>
   intro hk
   obtain ⟨ws, h1, h2⟩ := ih (by omega)
   have hget : l[k]? = some l[k] := List.getElem?_eq_getElem (by omega)
   obtain ⟨t, ht, ht2, ht3⟩ := h k _ hget
   have hl : ws.length = k := by
    have := congrArg List.length h1
    rw [List.length_map, List.length_take] at this
    omega
   refine ⟨ws ++ [t], ?_, fun i u hu => ?_⟩
   ·rw [List.map_append, h1, List.take_add_one, hget, <- ht2]; rfl
   ·rcases Nat.lt_or_ge i ws.length with hi | hi
    ·rw [List.getElem?_append_left hi] at hu
     exact h2 i u hu
    ·rw [List.getElem?_append_right hi] at hu
     have hi2 : i = k := by
      have := (List.getElem?_eq_some_iff.1 hu).1
      simp at this
      omega
     subst hi2
     rw [hl, Nat.sub_self] at hu
     injection hu with hu
     subst hu
     exact ⟨ht, ht3⟩
 obtain ⟨ws, h1, h2⟩ := key l.length (Nat.le_refl _)
 exact ⟨ws, by rw [h1, List.take_length], h2⟩
theorem split_calls {T : Tab} (hf : Facts T) {W : World} (hT : TabAt T W) {s : ByteArray} (hs : s.size <= maxLen) (hz : Nat.ble (bytesL s).length 4000000000 = true) :
  Calls Tryz.prog 94 #[.string s, .string ⟨#[32]⟩] W fun e W' => ∃ (B cap : Nat) (ws : List ByteArray), e = .returned (.slice (some ⟨B, 0, none⟩) ws.length cap) /\ ws.map bytesL = splitI (bytesL s) 32 /\ W.heap.size <= B /\ B < W'.heap.size /\ ws.length <= cap /\ (∀ (i : Nat) (t : ByteArray), ws[i]? = some t -> W'.cell? ⟨B, i, none⟩ = some (.string t) /\ t.size <= maxLen) /\ Below W.heap.size W W' := by
 have h : F_strings_Split (bytesL s) [32] = some (splitI (bytesL s) 32) := by
  unfold F_strings_Split
  dsimp only
  rw [hz]; rfl
 refine (fn_calls hT (s := F_strings_Split_sig) (al := [⟨false, flat .str (bytesL s), .string s⟩, ⟨false, flat .str (bytesL ⟨#[32]⟩), .string ⟨#[32]⟩⟩]) (y := (splitI (bytesL s) 32 : List (List Int))) (F_strings_Split_sound hf.maxlen) rfl Tryz.func94
  (List.forall_mem_cons.2 ⟨str_ok hs, List.forall_mem_cons.2 ⟨str_ok (by decide), fun a h => by cases h⟩⟩) (appF_c (appF_c (appF_n h)))).mono ?_
 obtain ⟨l, hl⟩ : ∃ l, splitI (bytesL s) 32 = l := ⟨_, rfl⟩
 have hne : l ≠ [] := by rw [<- hl]; exact splitI_ne _ _
 rw [hl]
 rintro e W' ⟨us, g', st', rfl, h1, h2, h3, h4⟩
 have e2 : (exitSt F_strings_Split_sig (l : List (List Int))).map (fun st => (st.φ 0, st.O (.hd 0 0))) = some (.w false [.own (.hd 0 0) 9 .str l], true) := rfl
 rw [h2] at e2
 injection e2 with e2
 have q0 := h4 0
 rw [show st'.φ 0 = _ from congrArg Prod.fst e2] at q0
 have hO : st'.O (.hd 0 0) = true := congrArg Prod.snd e2
 obtain ⟨u, rfl⟩ : ∃ u, us = [u] := by
  match us, h1 with
  | [u], _ => exact ⟨u, rfl⟩
 obtain ⟨cs, g1, g2⟩ := q0
 have g2 : cs = [u] := g2
 subst g2
 obtain ⟨c1, c2, g3, ⟨hrd, hown⟩, g4⟩ := g1
 have g4 : c2 = [] := g4
 subst g4
 rw [List.append_nil] at g3
 subst g3
 obtain ⟨v, hv, hOw⟩ := hown hO
 injection hv with hv
 subst hv
 rcases hOw with ⟨a, _, hnil, _⟩ | ⟨bl, cap, cur, hv2, hblk, hcell, hlc, hcm, hcs, hel, hC, hW⟩
 ·exact absurd hnil hne
 have hcs : cur.size = cap * 1 := hcs
 have hlc : l.length <= cap := hlc
 have hel2 : ∀ (i : Nat) (y : List Int), l[i]? = some y -> ∃ t : ByteArray, cur[i]? = some (.string t) /\ bytesL t = y /\ t.size <= maxLen := fun i y hy => by
  obtain ⟨t, ht, ht2, ht3⟩ := hel i y hy
  have hi : i < l.length := (List.getElem?_eq_some_iff.1 hy).1
  have hic : i < cur.size := by omega
  refine ⟨t, ?_, ht2, ht3⟩
  rw [show (Ty.str).size = 1 from rfl, Nat.mul_one, List.drop_eq_getElem_cons (by simpa using hic)] at ht
  simp only [List.take_succ_cons, List.take_zero, List.cons.injEq, and_true, Array.getElem_toList] at ht
  rw [Array.getElem?_eq_getElem hic, ht]
 obtain ⟨ws, hwl, hw2⟩ : ∃ ws : List ByteArray, ws.map bytesL = l /\ ∀ (i : Nat) (t : ByteArray), ws[i]? = some t -> cur[i]? = some (.string t) /\ t.size <= maxLen := strs_of l cur hel2
 have hwlen : ws.length = l.length := by rw [<- hwl, List.length_map]
 refine ⟨bl, cap, ws, ?_, hwl, ?_, (Array.getElem?_eq_some_iff.1 hcell).1, by omega, fun i t ht => ?_, h3⟩
 ·show Ending.returned u = _
  rw [hv2, hwlen]
  rfl
 ·rcases hW _ (Nat.le_refl _) with h | h
  ·exact h
  ·exact h.elim
 ·obtain ⟨k1, k2⟩ := hw2 i t ht
  exact ⟨by rw [cell_at hcell]; exact k1, k2⟩
def lbL : List Int := [108, 105, 109, 105, 116]
def lbU : List Int := [117, 115, 101, 114]
def lbA : List Int := [97, 108, 108, 111, 119]
def lbD : List Int := [100, 101, 110, 121]
theorem ln_lit (s : ByteArray) (l : List UInt8) : (s.toList == l) = (bytesL s == l.map byteI) := by
 have h := bytes_eq s ⟨l.toArray⟩
 have e : (⟨l.toArray⟩ : ByteArray).toList = l := by rw [toList_data]
 rw [e] at h
 exact h
noncomputable def lineW (x : RSt) (w0 : List Int) (ws : List (List Int)) : Option (RSt × Int) :=
 cond (w0 == lbL) ((limitsP x ws).map fun p => (p.1, cond p.2 0 2)) (cond (w0 == lbU) (userP x ws) (cond (w0 == lbA) (ruleP x true ws) (cond (w0 == lbD) (ruleP x false ws) (some (x, 2)))))
noncomputable def lineP (x : RSt) (s : List Int) : Option (RSt × Int) := cond (Nat.ble s.length 4000000000 && Nat.ble x.us.length 16) (match splitI s 32 with
 | [] => none
 | w0 :: ws => lineW x w0 ws) none
theorem tail1 {w : World} {B : Nat} {s0 : ByteArray} {ts : List ByteArray} (h : ∀ (i : Nat) (t : ByteArray), (s0 :: ts)[i]? = some t -> w.cell? ⟨B, i, none⟩ = some (.string t) /\ t.size <= maxLen) :
  ∀ i t, ts[i]? = some t -> ∃ ad, some (⟨B, 1, none⟩ : Addr) = some ad /\ w.cell? (ad.add i) = some (.string t) /\ t.size <= maxLen := fun i t ht => by
 obtain ⟨h1, h2⟩ := h (i + 1) t ht
 refine ⟨⟨B, 1, none⟩, rfl, ?_, h2⟩
 rw [add_at, Nat.add_comm]
 exact h1
theorem tail0 {w : World} {a : Option Addr} {ts : List ByteArray} (h : ts.length = 0) :
  ∀ i t, ts[i]? = some t -> ∃ ad, a = some ad /\ w.cell? (ad.add i) = some (.string t) /\ t.size <= maxLen := fun i t ht => by
 have := (List.getElem?_eq_some_iff.1 ht).1
 omega
theorem no_blk {role : Nat -> Role} {B o : Nat} (h : role B = .no) : ∀ ad, some (⟨B, o, none⟩ : Addr) = some ad -> role ad.block = .no := fun ad e => by
 injection e with e
 rw [<- e]; exact h
theorem ws_cons {ws : List ByteArray} {w0 : List Int} {rest : List (List Int)} (h : ws.map bytesL = w0 :: rest) : ∃ s0 ts, ws = s0 :: ts /\ bytesL s0 = w0 /\ ts.map bytesL = rest := by
 cases ws with
 | nil => cases h
 | cons s0 ts =>
  injection h with h1 h2
  exact ⟨s0, ts, rfl, h1, h2⟩
set_option maxHeartbeats 16000000 in
set_option maxRecDepth 1000000 in
theorem line_lim {T : Tab} (hf : Facts T) {lo : Nat} {w : World} {R M : Nat} {v : Value} {role : Nat -> Role} {x : RSt} (h : RdAt lo w R M v role x) (hT : TabAt T w) (hlo : lo <= w.heap.size) (few : x.us.length <= 16) {s : ByteArray} (hs : s.size <= maxLen) (hz : Nat.ble (bytesL s).length 4000000000 = true) {w0 : List Int} {rest : List (List Int)} (hspl : splitI (bytesL s) 32 = w0 :: rest) (hk : (w0 == ([108, 105, 109, 105, 116] : List UInt8).map byteI) = true /\ True /\ True /\ True) {x' : RSt} {b : Bool} (hF : limitsP x rest = some (x', b)) :
  Calls Tryz.prog 54 #[.pointer (some ⟨R, 0, none⟩), .string s] w fun e w' => RdPost lo R M x' (cond b 0 2) e w w' := by
 have hsp := split_calls hf hT hs hz
 have HL : Aside (lo <= w.heap.size /\ RdAt lo w R M v role x /\ TabAt T w /\ x.us.length <= 16) := ⟨hlo, h, hT, few⟩
 have HS : Aside (splitI (bytesL s) 32 = w0 :: rest) := hspl
 have HK : Aside ((w0 == ([108, 105, 109, 105, 116] : List UInt8).map byteI) = true /\ True /\ True /\ True) := hk
 clear hlo h hT few hz hspl hk
 have HF : Aside (limitsP x rest = some (x', b)) := hF
 clear hF
 go_enter Tryz.func54, Tryz.ntmps54
 go_wp2_with (first
  | (go_at_call 94; (refine hsp.mono ?_; rintro e w1 ⟨B, cap, ws, rfl, hwl, hB, hBl, hcap, hcell, hb1⟩; obtain ⟨s0, ts, rfl, hs0, hts⟩ := ws_cons (hwl.trans HS.out); have c10 : w1.cell? ⟨B, 0, none⟩ = some (.string s0) := (hcell 0 s0 rfl).1; have hcap : ts.length + 1 <= cap := hcap; have HW : Aside (RdAt lo w1 R M v role x /\ TabAt T w1 /\ lo <= w1.heap.size /\ (∀ i t, ts[i]? = some t -> ∃ ad, some (⟨B, 1, none⟩ : Addr) = some ad /\ w1.cell? (ad.add i) = some (.string t) /\ t.size <= maxLen) /\ role B = .no /\ ts.map bytesL = rest /\ Below lo w w1) := ⟨HL.out.2.1.below hb1, HL.out.2.2.1.below hb1, Nat.le_trans HL.out.1 hb1.size, tail1 hcell, Classical.byContradiction (fun hr => absurd (HL.out.2.1.lt B hr).2 (by omega)), hts, hb1.mono HL.out.1⟩; have e0 : (s0.toList == [108, 105, 109, 105, 116]) = true := by { rw [ln_lit, hs0]; exact HK.out.1 }; clear hcell hwl hts hs0 hb1)))
 ·have hl : limitsP x (ts.map bytesL) = some (x', b) := by rw [HW.out.2.2.2.2.2.1]; exact HF.out
  have ht0 : ts.length = 0 := by omega
  refine (lm_walk hf HW.out.1 HW.out.2.1 HW.out.2.2.1 (a := some ⟨B, 0, none⟩) (n := ts.length) (c := 0) (ws := ts) rfl (tail0 ht0) (no_blk HW.out.2.2.2.2.1) hl).mono ?_
  rintro e w2 ⟨rfl, hb2, h2⟩
  clear e0 hcap
  cases b with
  | true =>
   go_wp2
   go_ret
   exact ⟨rfl, HW.out.2.2.2.2.2.2.trans hb2, fun _ => h2 trivial⟩
  | false =>
   go_wp2
   go_ret
   exact ⟨rfl, HW.out.2.2.2.2.2.2.trans hb2, fun e => by cases e⟩
 ·have hl : limitsP x (ts.map bytesL) = some (x', b) := by rw [HW.out.2.2.2.2.2.1]; exact HF.out
  refine (lm_walk hf HW.out.1 HW.out.2.1 HW.out.2.2.1 (a := some ⟨B, 1, none⟩) (n := ts.length) (c := cap - 1) (ws := ts) rfl HW.out.2.2.2.1 (no_blk HW.out.2.2.2.2.1) hl).mono ?_
  rintro e w2 ⟨rfl, hb2, h2⟩
  clear e0 hcap
  cases b with
  | true =>
   go_wp2
   go_ret
   exact ⟨rfl, HW.out.2.2.2.2.2.2.trans hb2, fun _ => h2 trivial⟩
  | false =>
   go_wp2
   go_ret
   exact ⟨rfl, HW.out.2.2.2.2.2.2.trans hb2, fun e => by cases e⟩
set_option maxHeartbeats 16000000 in
set_option maxRecDepth 1000000 in
theorem line_user {T : Tab} (hf : Facts T) {lo : Nat} {w : World} {R M : Nat} {v : Value} {role : Nat -> Role} {x : RSt} (h : RdAt lo w R M v role x) (hT : TabAt T w) (hlo : lo <= w.heap.size) (few : x.us.length <= 16) {s : ByteArray} (hs : s.size <= maxLen) (hz : Nat.ble (bytesL s).length 4000000000 = true) {w0 : List Int} {rest : List (List Int)} (hspl : splitI (bytesL s) 32 = w0 :: rest) (hk : (w0 == ([108, 105, 109, 105, 116] : List UInt8).map byteI) = false /\ (w0 == ([117, 115, 101, 114] : List UInt8).map byteI) = true /\ True /\ True) {x' : RSt} {e' : Int} (hF : userP x rest = some (x', e')) :
  Calls Tryz.prog 54 #[.pointer (some ⟨R, 0, none⟩), .string s] w fun e w' => RdPost lo R M x' e' e w w' := by
 have hsp := split_calls hf hT hs hz
 have HL : Aside (lo <= w.heap.size /\ RdAt lo w R M v role x /\ TabAt T w /\ x.us.length <= 16) := ⟨hlo, h, hT, few⟩
 have HS : Aside (splitI (bytesL s) 32 = w0 :: rest) := hspl
 have HK : Aside ((w0 == ([108, 105, 109, 105, 116] : List UInt8).map byteI) = false /\ (w0 == ([117, 115, 101, 114] : List UInt8).map byteI) = true /\ True /\ True) := hk
 clear hlo h hT few hz hspl hk
 have HF : Aside (userP x rest = some (x', e')) := hF
 clear hF
 go_enter Tryz.func54, Tryz.ntmps54
 go_wp2_with (go_at_call 94; (refine hsp.mono ?_; rintro e w1 ⟨B, cap, ws, rfl, hwl, hB, hBl, hcap, hcell, hb1⟩; obtain ⟨s0, ts, rfl, hs0, hts⟩ := ws_cons (hwl.trans HS.out); have c10 : w1.cell? ⟨B, 0, none⟩ = some (.string s0) := (hcell 0 s0 rfl).1; have hcap : ts.length + 1 <= cap := hcap; have HW : Aside (RdAt lo w1 R M v role x /\ TabAt T w1 /\ lo <= w1.heap.size /\ (∀ i t, ts[i]? = some t -> ∃ ad, some (⟨B, 1, none⟩ : Addr) = some ad /\ w1.cell? (ad.add i) = some (.string t) /\ t.size <= maxLen) /\ role B = .no /\ ts.map bytesL = rest /\ Below lo w w1) := ⟨HL.out.2.1.below hb1, HL.out.2.2.1.below hb1, Nat.le_trans HL.out.1 hb1.size, tail1 hcell, Classical.byContradiction (fun hr => absurd (HL.out.2.1.lt B hr).2 (by omega)), hts, hb1.mono HL.out.1⟩; have e0 : (s0.toList == [108, 105, 109, 105, 116]) = false := by { rw [ln_lit, hs0]; exact HK.out.1 }; have e1 : (s0.toList == [117, 115, 101, 114]) = true := by { rw [ln_lit, hs0]; exact HK.out.2.1 }; clear hcell hwl hts hs0 hb1))
 ·have hl : userP x (ts.map bytesL) = some (x', e') := by rw [HW.out.2.2.2.2.2.1]; exact HF.out
  have ht0 : ts.length = 0 := by omega
  refine (user_walk hf HW.out.1 HW.out.2.1 HW.out.2.2.1 HL.out.2.2.2 (a := some ⟨B, 0, none⟩) (n := ts.length) (c := 0) (ws := ts) rfl (tail0 ht0) hl).mono ?_
  rintro e w2 ⟨rfl, hb2, h2⟩
  have H2 : Aside (_ /\ _) := ⟨hb2, h2⟩
  clear e0 e1 hcap hb2 h2
  go_wp2
  go_ret
  exact ⟨rfl, HW.out.2.2.2.2.2.2.trans H2.out.1, H2.out.2⟩
 ·have hl : userP x (ts.map bytesL) = some (x', e') := by rw [HW.out.2.2.2.2.2.1]; exact HF.out
  refine (user_walk hf HW.out.1 HW.out.2.1 HW.out.2.2.1 HL.out.2.2.2 (a := some ⟨B, 1, none⟩) (n := ts.length) (c := cap - 1) (ws := ts) rfl HW.out.2.2.2.1 hl).mono ?_
  rintro e w2 ⟨rfl, hb2, h2⟩
  have H2 : Aside (_ /\ _) := ⟨hb2, h2⟩
  clear e0 e1 hcap hb2 h2
  go_wp2
  go_ret
  exact ⟨rfl, HW.out.2.2.2.2.2.2.trans H2.out.1, H2.out.2⟩
set_option maxHeartbeats 16000000 in
set_option maxRecDepth 1000000 in
theorem line_none {T : Tab} (hf : Facts T) {lo : Nat} {w : World} {R M : Nat} {v : Value} {role : Nat -> Role} {x : RSt} (h : RdAt lo w R M v role x) (hT : TabAt T w) (hlo : lo <= w.heap.size) (few : x.us.length <= 16) {s : ByteArray} (hs : s.size <= maxLen) (hz : Nat.ble (bytesL s).length 4000000000 = true) {w0 : List Int} {rest : List (List Int)} (hspl : splitI (bytesL s) 32 = w0 :: rest) (hk : (w0 == ([108, 105, 109, 105, 116] : List UInt8).map byteI) = false /\ (w0 == ([117, 115, 101, 114] : List UInt8).map byteI) = false /\ (w0 == ([97, 108, 108, 111, 119] : List UInt8).map byteI) = false /\ (w0 == ([100, 101, 110, 121] : List UInt8).map byteI) = false) :
  Calls Tryz.prog 54 #[.pointer (some ⟨R, 0, none⟩), .string s] w fun e w' => RdPost lo R M x 2 e w w' := by
 have hsp := split_calls hf hT hs hz
 have HL : Aside (lo <= w.heap.size /\ RdAt lo w R M v role x /\ TabAt T w /\ x.us.length <= 16) := ⟨hlo, h, hT, few⟩
 have HS : Aside (splitI (bytesL s) 32 = w0 :: rest) := hspl
 have HK : Aside ((w0 == ([108, 105, 109, 105, 116] : List UInt8).map byteI) = false /\ (w0 == ([117, 115, 101, 114] : List UInt8).map byteI) = false /\ (w0 == ([97, 108, 108, 111, 119] : List UInt8).map byteI) = false /\ (w0 == ([100, 101, 110, 121] : List UInt8).map byteI) = false) := hk
 clear hlo h hT few hz hspl hk
 go_enter Tryz.func54, Tryz.ntmps54
 go_wp2_with (go_at_call 94; (refine hsp.mono ?_; rintro e w1 ⟨B, cap, ws, rfl, hwl, hB, hBl, hcap, hcell, hb1⟩; obtain ⟨s0, ts, rfl, hs0, hts⟩ := ws_cons (hwl.trans HS.out); have c10 : w1.cell? ⟨B, 0, none⟩ = some (.string s0) := (hcell 0 s0 rfl).1; have hcap : ts.length + 1 <= cap := hcap; have HW : Aside (RdAt lo w1 R M v role x /\ TabAt T w1 /\ lo <= w1.heap.size /\ (∀ i t, ts[i]? = some t -> ∃ ad, some (⟨B, 1, none⟩ : Addr) = some ad /\ w1.cell? (ad.add i) = some (.string t) /\ t.size <= maxLen) /\ role B = .no /\ ts.map bytesL = rest /\ Below lo w w1) := ⟨HL.out.2.1.below hb1, HL.out.2.2.1.below hb1, Nat.le_trans HL.out.1 hb1.size, tail1 hcell, Classical.byContradiction (fun hr => absurd (HL.out.2.1.lt B hr).2 (by omega)), hts, hb1.mono HL.out.1⟩; have e0 : (s0.toList == [108, 105, 109, 105, 116]) = false := by { rw [ln_lit, hs0]; exact HK.out.1 }; have e1 : (s0.toList == [117, 115, 101, 114]) = false := by { rw [ln_lit, hs0]; exact HK.out.2.1 }; have e2 : (s0.toList == [97, 108, 108, 111, 119]) = false := by { rw [ln_lit, hs0]; exact HK.out.2.2.1 }; have e3 : (s0.toList == [100, 101, 110, 121]) = false := by { rw [ln_lit, hs0]; exact HK.out.2.2.2 }; clear hcell hwl hts hs0 hb1))
 go_ret
 exact ⟨rfl, HW.out.2.2.2.2.2.2, fun e => by cases e⟩
set_option maxHeartbeats 16000000 in
set_option maxRecDepth 1000000 in
theorem line_allow {T : Tab} (hf : Facts T) {lo : Nat} {w : World} {R M : Nat} {v : Value} {role : Nat -> Role} {x : RSt} (h : RdAt lo w R M v role x) (hT : TabAt T w) (hlo : lo <= w.heap.size) (few : x.us.length <= 16) {s : ByteArray} (hs : s.size <= maxLen) (hz : Nat.ble (bytesL s).length 4000000000 = true) {w0 : List Int} {rest : List (List Int)} (hspl : splitI (bytesL s) 32 = w0 :: rest) (hk : (w0 == ([108, 105, 109, 105, 116] : List UInt8).map byteI) = false /\ (w0 == ([117, 115, 101, 114] : List UInt8).map byteI) = false /\ (w0 == ([97, 108, 108, 111, 119] : List UInt8).map byteI) = true /\ True) {x' : RSt} {e' : Int} (hF : ruleP x true rest = some (x', e')) :
  Calls Tryz.prog 54 #[.pointer (some ⟨R, 0, none⟩), .string s] w fun e w' => RdPost lo R M x' e' e w w' := by
 have hsp := split_calls hf hT hs hz
 have HL : Aside (lo <= w.heap.size /\ RdAt lo w R M v role x /\ TabAt T w /\ x.us.length <= 16) := ⟨hlo, h, hT, few⟩
 have HS : Aside (splitI (bytesL s) 32 = w0 :: rest) := hspl
 have HK : Aside ((w0 == ([108, 105, 109, 105, 116] : List UInt8).map byteI) = false /\ (w0 == ([117, 115, 101, 114] : List UInt8).map byteI) = false /\ (w0 == ([97, 108, 108, 111, 119] : List UInt8).map byteI) = true /\ True) := hk
 clear hlo h hT few hz hspl hk
 have HF : Aside (ruleP x true rest = some (x', e')) := hF
 clear hF
 go_enter Tryz.func54, Tryz.ntmps54
 go_wp2_with (go_at_call 94; (refine hsp.mono ?_; rintro e w1 ⟨B, cap, ws, rfl, hwl, hB, hBl, hcap, hcell, hb1⟩; obtain ⟨s0, ts, rfl, hs0, hts⟩ := ws_cons (hwl.trans HS.out); have c10 : w1.cell? ⟨B, 0, none⟩ = some (.string s0) := (hcell 0 s0 rfl).1; have hcap : ts.length + 1 <= cap := hcap; have HW : Aside (RdAt lo w1 R M v role x /\ TabAt T w1 /\ lo <= w1.heap.size /\ (∀ i t, ts[i]? = some t -> ∃ ad, some (⟨B, 1, none⟩ : Addr) = some ad /\ w1.cell? (ad.add i) = some (.string t) /\ t.size <= maxLen) /\ role B = .no /\ ts.map bytesL = rest /\ Below lo w w1) := ⟨HL.out.2.1.below hb1, HL.out.2.2.1.below hb1, Nat.le_trans HL.out.1 hb1.size, tail1 hcell, Classical.byContradiction (fun hr => absurd (HL.out.2.1.lt B hr).2 (by omega)), hts, hb1.mono HL.out.1⟩; have e0 : (s0.toList == [108, 105, 109, 105, 116]) = false := by { rw [ln_lit, hs0]; exact HK.out.1 }; have e1 : (s0.toList == [117, 115, 101, 114]) = false := by { rw [ln_lit, hs0]; exact HK.out.2.1 }; have e2 : (s0.toList == [97, 108, 108, 111, 119]) = true := by { rw [ln_lit, hs0]; exact HK.out.2.2.1 }; clear hcell hwl hts hs0 hb1))
 have hl : ruleP x true (ts.map bytesL) = some (x', e') := by rw [HW.out.2.2.2.2.2.1]; exact HF.out
 have hRz : RdAt lo w1.drew R M v role x := HW.out.1.keep (fun b _ => rfl) (Nat.le_refl _)
 have hTz : TabAt T w1.drew := fun p hp => HW.out.2.1 p hp
 by_cases hc1 : cap = 1
 ·subst hc1
  have ht0 : ts.length = 0 := by omega
  have HR : Aside (Calls Tryz.prog 97 #[.pointer (some ⟨R, 0, none⟩), .bool true, .slice (some ⟨B, 0, none⟩) 0 0] w1.drew fun e w' => RdPost lo R M x' e' e w1.drew w') := rule_walk hf hRz hTz HW.out.2.2.1 HL.out.2.2.2 ht0 (tail0 ht0) hl
  clear hRz hTz hl
  go_region_with (go_at_call 97; (refine HR.out.mono ?_; rintro e w2 ⟨rfl, hb2, h2⟩; have H2 : Aside (_ /\ _) := ⟨hb2, h2⟩; clear hb2 h2))
  all_goals
   go_wp2
   go_ret
   exact ⟨rfl, HW.out.2.2.2.2.2.2.trans ⟨H2.out.1.os, H2.out.1.tape, H2.out.1.output, H2.out.1.size, H2.out.1.block⟩, H2.out.2⟩
 ·have ht1 : ∀ i t, ts[i]? = some t -> ∃ ad, some (⟨B, 1, none⟩ : Addr) = some ad /\ w1.drew.cell? (ad.add i) = some (.string t) /\ t.size <= maxLen := HW.out.2.2.2.1
  have HR : Aside (Calls Tryz.prog 97 #[.pointer (some ⟨R, 0, none⟩), .bool true, .slice (some ⟨B, 1, none⟩) ts.length (cap - 1)] w1.drew fun e w' => RdPost lo R M x' e' e w1.drew w') := rule_walk hf hRz hTz HW.out.2.2.1 HL.out.2.2.2 rfl ht1 hl
  clear hRz hTz hl ht1
  go_region_with (go_at_call 97; (refine HR.out.mono ?_; rintro e w2 ⟨rfl, hb2, h2⟩; have H2 : Aside (_ /\ _) := ⟨hb2, h2⟩; clear hb2 h2))
  all_goals
   go_wp2
   go_ret
   exact ⟨rfl, HW.out.2.2.2.2.2.2.trans ⟨H2.out.1.os, H2.out.1.tape, H2.out.1.output, H2.out.1.size, H2.out.1.block⟩, H2.out.2⟩
set_option maxHeartbeats 16000000 in
set_option maxRecDepth 1000000 in
theorem line_deny {T : Tab} (hf : Facts T) {lo : Nat} {w : World} {R M : Nat} {v : Value} {role : Nat -> Role} {x : RSt} (h : RdAt lo w R M v role x) (hT : TabAt T w) (hlo : lo <= w.heap.size) (few : x.us.length <= 16) {s : ByteArray} (hs : s.size <= maxLen) (hz : Nat.ble (bytesL s).length 4000000000 = true) {w0 : List Int} {rest : List (List Int)} (hspl : splitI (bytesL s) 32 = w0 :: rest) (hk : (w0 == ([108, 105, 109, 105, 116] : List UInt8).map byteI) = false /\ (w0 == ([117, 115, 101, 114] : List UInt8).map byteI) = false /\ (w0 == ([97, 108, 108, 111, 119] : List UInt8).map byteI) = false /\ (w0 == ([100, 101, 110, 121] : List UInt8).map byteI) = true) {x' : RSt} {e' : Int} (hF : ruleP x false rest = some (x', e')) :
  Calls Tryz.prog 54 #[.pointer (some ⟨R, 0, none⟩), .string s] w fun e w' => RdPost lo R M x' e' e w w' := by
 have hsp := split_calls hf hT hs hz
 have HL : Aside (lo <= w.heap.size /\ RdAt lo w R M v role x /\ TabAt T w /\ x.us.length <= 16) := ⟨hlo, h, hT, few⟩
 have HS : Aside (splitI (bytesL s) 32 = w0 :: rest) := hspl
 have HK : Aside ((w0 == ([108, 105, 109, 105, 116] : List UInt8).map byteI) = false /\ (w0 == ([117, 115, 101, 114] : List UInt8).map byteI) = false /\ (w0 == ([97, 108, 108, 111, 119] : List UInt8).map byteI) = false /\ (w0 == ([100, 101, 110, 121] : List UInt8).map byteI) = true) := hk
 clear hlo h hT few hz hspl hk
 have HF : Aside (ruleP x false rest = some (x', e')) := hF
 clear hF
 go_enter Tryz.func54, Tryz.ntmps54
 go_wp2_with (go_at_call 94; (refine hsp.mono ?_; rintro e w1 ⟨B, cap, ws, rfl, hwl, hB, hBl, hcap, hcell, hb1⟩; obtain ⟨s0, ts, rfl, hs0, hts⟩ := ws_cons (hwl.trans HS.out); have c10 : w1.cell? ⟨B, 0, none⟩ = some (.string s0) := (hcell 0 s0 rfl).1; have hcap : ts.length + 1 <= cap := hcap; have HW : Aside (RdAt lo w1 R M v role x /\ TabAt T w1 /\ lo <= w1.heap.size /\ (∀ i t, ts[i]? = some t -> ∃ ad, some (⟨B, 1, none⟩ : Addr) = some ad /\ w1.cell? (ad.add i) = some (.string t) /\ t.size <= maxLen) /\ role B = .no /\ ts.map bytesL = rest /\ Below lo w w1) := ⟨HL.out.2.1.below hb1, HL.out.2.2.1.below hb1, Nat.le_trans HL.out.1 hb1.size, tail1 hcell, Classical.byContradiction (fun hr => absurd (HL.out.2.1.lt B hr).2 (by omega)), hts, hb1.mono HL.out.1⟩; have e0 : (s0.toList == [108, 105, 109, 105, 116]) = false := by { rw [ln_lit, hs0]; exact HK.out.1 }; have e1 : (s0.toList == [117, 115, 101, 114]) = false := by { rw [ln_lit, hs0]; exact HK.out.2.1 }; have e2 : (s0.toList == [97, 108, 108, 111, 119]) = false := by { rw [ln_lit, hs0]; exact HK.out.2.2.1 }; have e3 : (s0.toList == [100, 101, 110, 121]) = true := by { rw [ln_lit, hs0]; exact HK.out.2.2.2 }; clear hcell hwl hts hs0 hb1))
 have hl : ruleP x false (ts.map bytesL) = some (x', e') := by rw [HW.out.2.2.2.2.2.1]; exact HF.out
 have hRz : RdAt lo w1.drew R M v role x := HW.out.1.keep (fun b _ => rfl) (Nat.le_refl _)
 have hTz : TabAt T w1.drew := fun p hp => HW.out.2.1 p hp
 by_cases hc1 : cap = 1
 ·subst hc1
  have ht0 : ts.length = 0 := by omega
  have HR : Aside (Calls Tryz.prog 97 #[.pointer (some ⟨R, 0, none⟩), .bool false, .slice (some ⟨B, 0, none⟩) 0 0] w1.drew fun e w' => RdPost lo R M x' e' e w1.drew w') := rule_walk hf hRz hTz HW.out.2.2.1 HL.out.2.2.2 ht0 (tail0 ht0) hl
  clear hRz hTz hl
  go_region_with (go_at_call 97; (refine HR.out.mono ?_; rintro e w2 ⟨rfl, hb2, h2⟩; have H2 : Aside (_ /\ _) := ⟨hb2, h2⟩; clear hb2 h2))
  all_goals
   go_wp2
   go_ret
   exact ⟨rfl, HW.out.2.2.2.2.2.2.trans ⟨H2.out.1.os, H2.out.1.tape, H2.out.1.output, H2.out.1.size, H2.out.1.block⟩, H2.out.2⟩
 ·have ht1 : ∀ i t, ts[i]? = some t -> ∃ ad, some (⟨B, 1, none⟩ : Addr) = some ad /\ w1.drew.cell? (ad.add i) = some (.string t) /\ t.size <= maxLen := HW.out.2.2.2.1
  have HR : Aside (Calls Tryz.prog 97 #[.pointer (some ⟨R, 0, none⟩), .bool false, .slice (some ⟨B, 1, none⟩) ts.length (cap - 1)] w1.drew fun e w' => RdPost lo R M x' e' e w1.drew w') := rule_walk hf hRz hTz HW.out.2.2.1 HL.out.2.2.2 rfl ht1 hl
  clear hRz hTz hl ht1
  go_region_with (go_at_call 97; (refine HR.out.mono ?_; rintro e w2 ⟨rfl, hb2, h2⟩; have H2 : Aside (_ /\ _) := ⟨hb2, h2⟩; clear hb2 h2))
  all_goals
   go_wp2
   go_ret
   exact ⟨rfl, HW.out.2.2.2.2.2.2.trans ⟨H2.out.1.os, H2.out.1.tape, H2.out.1.output, H2.out.1.size, H2.out.1.block⟩, H2.out.2⟩
end Go.Proofs.YtgfmfgombmpodaaGreatDoor
namespace Go.Proofs.YtgfmfgombmpodaaGreatDoor
open Go.RowKit Go.Lib Pv
set_option linter.unusedVariables false
theorem sizeC : sizeT Tryz.prog 51 = some 8 := by kernel_rfl
theorem agC : isAg Tryz.prog 51 = true := by kernel_rfl
theorem conf_ret {w : World} {R : Nat} {v0 v1 v2 v3 v4 v5 v6 v7 v : Value} {T : TypeId} {a : Act} {Z : Ending -> World -> Prop} (hd : a.defers = []) (h2 : a.tmps.getD 2 undef = .pointer (some ⟨R, 0, none⟩)) (h3 : a.tmps.getD 3 undef = v)
  (hR : w.heap[R]? = some (.cells #[v0, v1, v2, v3, v4, v5, v6, v7] T (0, 0)))
  (hZ : Z (.returned (.tuple #[.agg #[v0, v1, v2, v3, v4, v5, v6, v7], v])) w) : bodyPost Tryz.prog Tryz.f27 Z .ret a w := by
 have hl := run_loadVar_cells (P := Tryz.prog) (w := w) (t := 51) (ad := ⟨R, 0, none⟩) (us := [v0, v1, v2, v3, v4, v5, v6, v7]) sizeC rfl agC (fun j x hj => by
  show w.cell? ((⟨R, 0, none⟩ : Addr).add j) = _
  have e : (⟨R, 0, none⟩ : Addr).add j = ⟨R, j, none⟩ := by unfold Addr.add; simp; omega
  rw [e, Lib.cell_of_heap hR]
  rw [<- hj]; simp)
 refine bodyPost_ret ?_ hd hZ
 rw [results_cell_tmp (p := 2) (u := 3) (ty := 51) rfl, h2, h3]
 simp [asAddr, hl]
theorem four (w : World) {W' : World} (o1 o2 o3 o4 : Obj) (h : (((w.alloc o1).alloc o2).alloc o3).alloc o4 = W') : Below w.heap.size w W' /\ W'.heap[w.heap.size]? = some o1 := by
 have sz : ∀ (w : World) (o : Obj), (w.alloc o).heap.size = w.heap.size + 1 := fun w o => by simp
 rw [<- h]
 refine ⟨((((Below.refl _ w).alloc (Nat.le_refl _) _).alloc (by rw [sz]; omega) _).alloc (by rw [sz, sz]; omega) _).alloc (by rw [sz, sz, sz]; omega) _, ?_⟩
 rw [Lib.alloc_old _ _ _ (by rw [sz, sz, sz]; omega), Lib.alloc_old _ _ _ (by rw [sz, sz]; omega), Lib.alloc_old _ _ _ (by rw [sz]; omega)]
 rw [show (w.alloc o1).heap = w.heap.push o1 from rfl]
 simp
def confW (w : World) : World := ((((w.alloc (Obj.cells #[Value.int IntKind.i64 0, Value.int IntKind.i64 0, Value.int IntKind.i64 0, Value.int IntKind.i64 0, Value.int IntKind.i64 0, Value.int IntKind.i64 0, Value.int IntKind.i64 0, Value.slice none 0 0] 51)).alloc (Obj.cells #[Value.int IntKind.i64 16, Value.int IntKind.i64 100, Value.int IntKind.i64 65535, Value.int IntKind.i64 1000, Value.int IntKind.i64 1000000, Value.int IntKind.i64 1000, Value.int IntKind.i64 16384, Value.slice none 0 0] 51)).alloc (Obj.map #[] 0)).alloc (Obj.cells #[Value.int IntKind.i64 16, Value.int IntKind.i64 100, Value.int IntKind.i64 65535, Value.int IntKind.i64 1000, Value.int IntKind.i64 1000000, Value.int IntKind.i64 1000, Value.int IntKind.i64 16384, Value.slice none 0 0, Value.map (some (w.heap.size + 1 + 1))] 110))
end Go.Proofs.YtgfmfgombmpodaaGreatDoor
namespace Go.Proofs.YtgfmfgombmpodaaGreatDoor
open Go.RowKit Pv
set_option linter.unusedVariables false
theorem line_walk {T : Tab} (hf : Facts T) {lo : Nat} {w : World} {R M : Nat} {v : Value} {role : Nat -> Role} {x : RSt} (h : RdAt lo w R M v role x) (hT : TabAt T w) (hlo : lo <= w.heap.size) {s : ByteArray} (hs : s.size <= maxLen) {x' : RSt} {e' : Int} (hF : lineP x (bytesL s) = some (x', e')) :
  Calls Tryz.prog 54 #[.pointer (some ⟨R, 0, none⟩), .string s] w fun e w' => RdPost lo R M x' e' e w w' := by
 unfold lineP at hF
 cases hz : (Nat.ble (bytesL s).length 4000000000 && Nat.ble x.us.length 16) with
 | false => rw [hz] at hF; cases hF
 | true =>
 rw [hz, cond_true] at hF
 rw [Bool.and_eq_true] at hz
 have few := Nat.le_of_ble_eq_true hz.2
 cases hsp : splitI (bytesL s) 32 with
 | nil => exact absurd hsp (splitI_ne _ _)
 | cons w0 rest =>
 rw [hsp] at hF
 have hF : lineW x w0 rest = some (x', e') := hF
 unfold lineW at hF
 cases h1 : w0 == lbL with
 | true =>
  rw [h1] at hF
  obtain ⟨⟨y, b⟩, h2, h3⟩ := Option.map_eq_some_iff.1 hF
  obtain ⟨rfl, rfl⟩ := Prod.mk.inj h3
  exact line_lim hf h hT hlo few hs hz.1 hsp ⟨h1, trivial, trivial, trivial⟩ h2
 | false =>
 rw [h1, cond_false] at hF
 cases h2 : w0 == lbU with
 | true =>
  rw [h2] at hF
  exact line_user hf h hT hlo few hs hz.1 hsp ⟨h1, h2, trivial, trivial⟩ hF
 | false =>
 rw [h2, cond_false] at hF
 cases h3 : w0 == lbA with
 | true =>
  rw [h3] at hF
  exact line_allow hf h hT hlo few hs hz.1 hsp ⟨h1, h2, h3, trivial⟩ hF
 | false =>
 rw [h3, cond_false] at hF
 cases h4 : w0 == lbD with
 | true =>
  rw [h4] at hF
  exact line_deny hf h hT hlo few hs hz.1 hsp ⟨h1, h2, h3, h4⟩ hF
 | false =>
 rw [h4, cond_false] at hF
 injection hF with hF
 obtain ⟨rfl, rfl⟩ := Prod.mk.inj hF
 exact line_none hf h hT hlo few hs hz.1 hsp ⟨h1, h2, h3, h4⟩
def rst0 : RSt := ⟨16, 100, 65535, 1000, 1000000, 1000, 16384, [], []⟩
def skipL (s : List Int) : Bool := List.isEmpty s || (s.headD 0 == 35)
noncomputable def parseL : List (List Int) -> RSt -> Option (RSt × Int)
 | [], x => some (x, 0)
 | s :: r, x => cond (skipL s) (parseL r x) ((lineP x s).bind fun p => cond (decide (p.2 = 0)) (parseL r p.1) (some p))
theorem start_rd (w : World) : RdAt (w.heap.size + 1) (confW w) (w.heap.size + 1 + 1 + 1) (w.heap.size + 1 + 1) (.slice none 0 0) (fun b => if b = w.heap.size + 1 + 1 + 1 then .rdr else if b = w.heap.size + 1 + 1 then .map else .no) rst0 := by
  have sz : ∀ (w : World) (o : Obj), (w.alloc o).heap.size = w.heap.size + 1 := fun w o => by simp
  refine ⟨?_, if_pos rfl, ⟨#[], 0, ?_, fun e he => by simp at he, [], rfl, rfl⟩, ?_, ⟨[], World.ownsRow_nil _ _ _ _, fun b hb => (by cases hb), fun i u hu => (by simp [rst0] at hu)⟩, fun b hb => ?_, fun c hc => ?_⟩
  · unfold confW
    have := heap_alloc_new ((((w.alloc (Obj.cells #[Value.int IntKind.i64 0, Value.int IntKind.i64 0, Value.int IntKind.i64 0, Value.int IntKind.i64 0, Value.int IntKind.i64 0, Value.int IntKind.i64 0, Value.int IntKind.i64 0, Value.slice none 0 0] 51)).alloc (Obj.cells #[Value.int IntKind.i64 16, Value.int IntKind.i64 100, Value.int IntKind.i64 65535, Value.int IntKind.i64 1000, Value.int IntKind.i64 1000000, Value.int IntKind.i64 1000, Value.int IntKind.i64 16384, Value.slice none 0 0] 51)).alloc (Obj.map #[] 0))) (Obj.cells #[Value.int IntKind.i64 16, Value.int IntKind.i64 100, Value.int IntKind.i64 65535, Value.int IntKind.i64 1000, Value.int IntKind.i64 1000000, Value.int IntKind.i64 1000, Value.int IntKind.i64 16384, Value.slice none 0 0, Value.map (some (w.heap.size + 1 + 1))] 110)
    rw [sz, sz, sz] at this
    exact this
  · unfold confW
    rw [heap_alloc_old _ _ (by rw [sz, sz, sz]; omega)]
    have := heap_alloc_new ((w.alloc (Obj.cells #[Value.int IntKind.i64 0, Value.int IntKind.i64 0, Value.int IntKind.i64 0, Value.int IntKind.i64 0, Value.int IntKind.i64 0, Value.int IntKind.i64 0, Value.int IntKind.i64 0, Value.slice none 0 0] 51)).alloc (Obj.cells #[Value.int IntKind.i64 16, Value.int IntKind.i64 100, Value.int IntKind.i64 65535, Value.int IntKind.i64 1000, Value.int IntKind.i64 1000000, Value.int IntKind.i64 1000, Value.int IntKind.i64 16384, Value.slice none 0 0] 51)) (Obj.map #[] 0)
    rw [sz, sz] at this
    exact this
  · show (if w.heap.size + 1 + 1 = w.heap.size + 1 + 1 + 1 then Role.rdr else if w.heap.size + 1 + 1 = w.heap.size + 1 + 1 then .map else .no) = .map
    rw [if_neg (by omega), if_pos rfl]
  · have hs : (confW w).heap.size = w.heap.size + 1 + 1 + 1 + 1 := by
      unfold confW
      rw [sz, sz, sz, sz]
    rw [hs]
    by_cases h1 : b = w.heap.size + 1 + 1 + 1
    · omega
    · by_cases h2 : b = w.heap.size + 1 + 1
      · omega
      · exfalso
        apply hb
        show (if b = _ then Role.rdr else if b = _ then .map else .no) = .no
        rw [if_neg h1, if_neg h2]
  · simp [RSt.ints, rst0] at hc
    rcases hc with rfl | rfl | rfl | rfl | rfl | rfl | rfl <;> decide
theorem cells8 {w : World} {b : Nat} {v0 v1 v2 v3 v4 v5 v6 v7 : Value} {T : TypeId} (h : w.heap[b]? = some (.cells #[v0, v1, v2, v3, v4, v5, v6, v7] T (0, 0))) : w.cell? ⟨b, 0, none⟩ = some v0 /\ w.cell? ⟨b, 1, none⟩ = some v1 /\ w.cell? ⟨b, 2, none⟩ = some v2 /\ w.cell? ⟨b, 3, none⟩ = some v3 /\ w.cell? ⟨b, 4, none⟩ = some v4 /\ w.cell? ⟨b, 5, none⟩ = some v5 /\ w.cell? ⟨b, 6, none⟩ = some v6 /\ w.cell? ⟨b, 7, none⟩ = some v7 /\
  w.frozen? ⟨b, 0, none⟩ = false /\ w.frozen? ⟨b, 1, none⟩ = false /\ w.frozen? ⟨b, 2, none⟩ = false /\ w.frozen? ⟨b, 3, none⟩ = false /\ w.frozen? ⟨b, 4, none⟩ = false /\ w.frozen? ⟨b, 5, none⟩ = false /\ w.frozen? ⟨b, 6, none⟩ = false /\ w.frozen? ⟨b, 7, none⟩ = false := by
 refine ⟨?_, ?_, ?_, ?_, ?_, ?_, ?_, ?_, ?_, ?_, ?_, ?_, ?_, ?_, ?_, ?_⟩ <;> first | (rw [cell_at h]; rfl) | simp [World.frozen?, h]
def ParPost (w : World) (xf : RSt) (ef : Int) (e : Ending) (w' : World) : Prop := Below w.heap.size w w' /\ (ef ≠ 0 -> e = .returned (.tuple #[.agg #[.int .i64 0, .int .i64 0, .int .i64 0, .int .i64 0, .int .i64 0, .int .i64 0, .int .i64 0, .slice none 0 0], .int .i64 ef])) /\
 (ef = 0 -> ∃ v role, e = .returned (.tuple #[.agg #[.int .i64 xf.c0, .int .i64 xf.c1, .int .i64 xf.c2, .int .i64 xf.c3, .int .i64 xf.c4, .int .i64 xf.c5, .int .i64 xf.c6, v], .int .i64 0]) /\ RdAt (w.heap.size + 1) w' (w.heap.size + 1 + 1 + 1) (w.heap.size + 1 + 1) v role xf)
set_option maxHeartbeats 4000000 in
theorem set8 {w W : World} {b : Nat} {u0 u1 u2 u3 u4 u5 u6 u7 v0 v1 v2 v3 v4 v5 v6 v7 : Value} {T : TypeId} (h : w.heap[b]? = some (.cells #[u0, u1, u2, u3, u4, u5, u6, u7] T (0, 0))) (hW : ((((((((w.setCell ⟨b, 0, none⟩ v0).setCell ⟨b, 1, none⟩ v1).setCell ⟨b, 2, none⟩ v2).setCell ⟨b, 3, none⟩ v3).setCell ⟨b, 4, none⟩ v4).setCell ⟨b, 5, none⟩ v5).setCell ⟨b, 6, none⟩ v6).setCell ⟨b, 7, none⟩ v7) = W) :
  W.heap[b]? = some (.cells #[v0, v1, v2, v3, v4, v5, v6, v7] T (0, 0)) /\ (∀ k, k ≠ b -> W.heap[k]? = w.heap[k]?) /\ W.heap.size = w.heap.size /\ W.os = w.os /\ W.tape = w.tape /\ W.output = w.output := by
 have hsz : ∀ (w : World) (a : Addr) (u : Value), (w.setCell a u).heap.size = w.heap.size := fun w a u => by simp [World.setCell]
 have hos : ∀ (w : World) (a : Addr) (u : Value), (w.setCell a u).os = w.os /\ (w.setCell a u).tape = w.tape /\ (w.setCell a u).output = w.output := fun w a u => ⟨rfl, rfl, rfl⟩
 subst hW
 refine ⟨?_, fun k hk => ?_, by rw [hsz, hsz, hsz, hsz, hsz, hsz, hsz, hsz], by rw [(hos _ _ _).1, (hos _ _ _).1, (hos _ _ _).1, (hos _ _ _).1, (hos _ _ _).1, (hos _ _ _).1, (hos _ _ _).1, (hos _ _ _).1], by rw [(hos _ _ _).2.1, (hos _ _ _).2.1, (hos _ _ _).2.1, (hos _ _ _).2.1, (hos _ _ _).2.1, (hos _ _ _).2.1, (hos _ _ _).2.1, (hos _ _ _).2.1], by rw [(hos _ _ _).2.2, (hos _ _ _).2.2, (hos _ _ _).2.2, (hos _ _ _).2.2, (hos _ _ _).2.2, (hos _ _ _).2.2, (hos _ _ _).2.2, (hos _ _ _).2.2]⟩
 ·rw [set_heap (set_heap (set_heap (set_heap (set_heap (set_heap (set_heap (set_heap h)))))))]
  rfl
 ·rw [setCell_heap, if_neg hk, setCell_heap, if_neg hk, setCell_heap, if_neg hk, setCell_heap, if_neg hk, setCell_heap, if_neg hk, setCell_heap, if_neg hk, setCell_heap, if_neg hk, setCell_heap, if_neg hk]
theorem below_set {w wr W : World} (hb : Below w.heap.size w wr) (h1 : ∀ k, k ≠ w.heap.size -> W.heap[k]? = wr.heap[k]?) (h2 : W.heap.size = wr.heap.size) (h3 : W.os = wr.os /\ W.tape = wr.tape /\ W.output = wr.output) : Below w.heap.size w W :=
 ⟨h3.1.trans hb.os, h3.2.1.trans hb.tape, h3.2.2.trans hb.output, by rw [h2]; exact hb.size, fun k hk => (h1 k (by omega)).trans (hb.block k hk)⟩
theorem rd_slice {lo : Nat} {w : World} {R M : Nat} {v : Value} {role : Nat -> Role} {x : RSt} (h : RdAt lo w R M v role x) : ∃ a n c, v = .slice a n c := by
 obtain ⟨xs, u1, _⟩ := h.hU
 rcases u1.2 with ⟨rfl, _⟩ | ⟨g, cap, cur, rfl, _⟩
 ·exact ⟨_, _, _, rfl⟩
 ·exact ⟨_, _, _, rfl⟩
theorem par_cell {w w' : World} {a : Addr} {u : Value} (h : w.cell? a = some u) (hb : Below w.heap.size w w') : w'.cell? a = some u := (hb.cell (cell_lt h)).trans h
set_option maxHeartbeats 16000000 in
set_option maxRecDepth 1000000 in
theorem par_walk {T : Tab} (hf : Facts T) {w : World} (hT : TabAt T w) {a : Option Addr} {n c : Nat} {ls : List ByteArray} (hn : ls.length = n) (hsm : n <= 1000000) (hls : ∀ i s, ls[i]? = some s -> ∃ ad, a = some ad /\ w.cell? (ad.add i) = some (.string s) /\ s.size <= maxLen) {xf : RSt} {ef : Int} (hF : parseL (ls.map bytesL) rst0 = some (xf, ef)) :
    Calls Tryz.prog 27 #[.slice a n c] w fun e w' => ParPost w xf ef e w' := by
  have hs0 := start_rd w
  have HL : Aside (TabAt T w /\ ls.length = n /\ (∀ i s, ls[i]? = some s -> ∃ ad, a = some ad /\ w.cell? (ad.add i) = some (.string s) /\ s.size <= maxLen) /\ parseL (ls.map bytesL) rst0 = some (xf, ef)) := ⟨hT, hn, hls, hF⟩
  have HS0 : Aside (RdAt (w.heap.size + 1) (confW w) (w.heap.size + 1 + 1 + 1) (w.heap.size + 1 + 1) (.slice none 0 0) (fun b => if b = w.heap.size + 1 + 1 + 1 then .rdr else if b = w.heap.size + 1 + 1 then .map else .no) rst0) := hs0
  clear hT hn hls hF hs0
  go_enter Tryz.func27, Tryz.ntmps27
  have hmm := @run_makeMap Tryz.prog
  go_wp2
  go_loopw [3, 14] (fun u vi wr => u = .int .i64 0 /\ ∃ k : Nat, vi = .int .i64 k /\ k <= n /\ Aside (∃ x v role, RdAt (w.heap.size + 1) wr (w.heap.size + 1 + 1 + 1) (w.heap.size + 1 + 1) v role x /\ parseL ((ls.drop k).map bytesL) x = some (xf, ef)) /\ Aside (wr.heap[w.heap.size]? = some (Obj.cells #[Value.int IntKind.i64 0, Value.int IntKind.i64 0, Value.int IntKind.i64 0, Value.int IntKind.i64 0, Value.int IntKind.i64 0, Value.int IntKind.i64 0, Value.int IntKind.i64 0, Value.slice none 0 0] 51 (0, 0))) /\ Below w.heap.size w wr) (fun _ vi _ => n - (intOf vi).toNat)
  case atStart =>
    refine ⟨rfl, 0, rfl, by omega, ⟨rst0, _, _, HS0.out, HL.out.2.2.2⟩, ?_, ?_⟩
    · exact (four w _ _ _ _ rfl).2
    · exact (four w _ _ _ _ rfl).1
  case round =>
    obtain ⟨rfl, k, rfl, hk, HX, HZ, hb⟩ := hrel
    have hwr : w.heap.size <= wr.heap.size := hb.size
    by_cases hlt : k < n
    · obtain ⟨x, v, role, hrd, hp⟩ := HX.out
      have hkl : k < ls.length := by rw [HL.out.2.1]; exact hlt
      obtain ⟨s, hsk⟩ : ∃ s, ls[k]? = some s := ⟨_, List.getElem?_eq_getElem hkl⟩
      obtain ⟨ad, rfl, hc0, hz⟩ := HL.out.2.2.1 k s hsk
      have hcr := par_cell hc0 hb
      rw [List.drop_eq_getElem_cons hkl, List.map_cons, show ls[k] = s from by rw [List.getElem?_eq_getElem hkl] at hsk; injection hsk] at hp
      have hp : cond (skipL (bytesL s)) (parseL ((ls.drop (k + 1)).map bytesL) x) ((lineP x (bytesL s)).bind fun p => cond (decide (p.2 = 0)) (parseL ((ls.drop (k + 1)).map bytesL) p.1) (some p)) = some (xf, ef) := hp
      clear HX hsk hc0
      have hne : ∀ h0 : 0 < s.size, bytesL s = (((s[0]'h0).toNat : Nat) : Int) :: (bytesL s).tail := fun h0 => by
        have h1 : s.data.toList.length = s.size := by simp
        have h2 : s.data.toList[0]? = some (s[0]'h0) := Lib.data_getElem? s 0 h0
        show s.data.toList.map byteI = _
        cases hq : s.data.toList with
        | nil => rw [hq] at h2; cases h2
        | cons y r =>
          rw [hq] at h2
          injection h2 with h2
          show byteI y :: r.map byteI = _
          rw [<- h2]
          show _ = _ :: (s.data.toList.map byteI).tail
          rw [hq]
          rfl
      cases hsk : skipL (bytesL s) with
      | true =>
        rw [hsk, cond_true] at hp
        have HN : Aside (∃ x v role, RdAt (w.heap.size + 1) wr (w.heap.size + 1 + 1 + 1) (w.heap.size + 1 + 1) v role x /\ parseL ((ls.drop (k + 1)).map bytesL) x = some (xf, ef)) := ⟨x, v, role, hrd, hp⟩
        clear hrd hp
        by_cases h0 : 0 < s.size
        · have hc : (((s[0]'h0).toNat : Nat) : Int) = 35 := by
            unfold skipL at hsk
            rw [hne h0] at hsk
            simpa using hsk
          have hnn : ¬ s.toList = [] := fun e => by
            have := (bytes_nil s).2 e
            rw [hne h0] at this
            cases this
          clear hsk hne
          go_wp2
          all_goals exact ⟨⟨by first | rfl | trivial, k + 1, by simp, by omega, HN, HZ, hb⟩, by simp [intOf]; omega⟩
        · have hnn : s.toList = [] := (bytes_nil s).1 (List.eq_nil_of_length_eq_zero (by rw [bytes_len]; omega))
          clear hsk hne
          go_wp2
          all_goals exact ⟨⟨by first | rfl | trivial, k + 1, by simp, by omega, HN, HZ, hb⟩, by simp [intOf]; omega⟩
      | false =>
        rw [hsk, cond_false] at hp
        obtain ⟨⟨x1, e1⟩, hl1, hp⟩ := Option.bind_eq_some_iff.1 hp
        have hnn : ¬ s.toList = [] := fun e => by
          have := (bytes_nil s).2 e
          rw [this] at hsk
          cases hsk
        have h0 : 0 < s.size := by
          rcases Nat.lt_or_ge 0 s.size with h | h
          · exact h
          · exact absurd ((bytes_nil s).1 (List.eq_nil_of_length_eq_zero (by rw [bytes_len]; omega))) hnn
        have hc : ¬ (((s[0]'h0).toNat : Nat) : Int) = 35 := fun e => by
          unfold skipL at hsk
          rw [hne h0, e] at hsk
          cases hsk
        have hTr : TabAt T wr := HL.out.1.below hb
        have hlw : w.heap.size + 1 <= wr.heap.size := (Array.getElem?_eq_some_iff.1 HZ.out).1
        have hlk := line_walk hf hrd hTr hlw hz hl1
        have hzb : ∀ w2, Below (w.heap.size + 1) wr w2 -> w2.heap[w.heap.size]? = _ := fun w2 h => (h.block w.heap.size (by omega)).trans HZ.out
        have HN : Aside (_ /\ _) := ⟨hp, hzb⟩
        clear hrd hp hsk hne hTr hlw hl1 hzb
        by_cases he : e1 = 0
        · subst he
          go_wp2_with (go_at_call 54; (refine hlk.mono ?_; rintro e w2 ⟨rfl, hb2, h2⟩; have H2 : Aside (_ /\ _) := ⟨hb2, h2⟩; clear hb2 h2))
          all_goals first
            | (exfalso; rename_i hor; rcases hor with hor | hor; exact hnn (List.isEmpty_iff.1 hor); exact hc (by simpa using hor))
            | (obtain ⟨v', role', hrd'⟩ := H2.out.2 (by first | rfl | trivial)
               exact ⟨⟨by first | rfl | trivial, k + 1, by simp, by omega, ⟨x1, v', role', hrd', HN.out.1⟩, HN.out.2 _ H2.out.1, hb.trans (H2.out.1.mono (by omega))⟩, by simp [intOf]; omega⟩)
        · have hpe : some (x1, e1) = some (xf, ef) := by
            have := HN.out.1
            rw [decide_eq_false he] at this
            exact this
          injection hpe with hpe
          obtain ⟨rfl, rfl⟩ := Prod.mk.inj hpe
          go_wp2_with (go_at_call 54; (refine hlk.mono ?_; rintro e w2 ⟨rfl, hb2, h2⟩; obtain ⟨z0, z1, z2, z3, z4, z5, z6, z7, f0, f1, f2, f3, f4, f5, f6, f7⟩ := cells8 (HN.out.2 _ hb2); have H2 : Aside (_ /\ _) := ⟨hb2, h2⟩; clear hb2 h2))
          all_goals first
            | (exfalso; rename_i hor; rcases hor with hor | hor; exact hnn (List.isEmpty_iff.1 hor); exact hc (by simpa using hor))
            | skip
          all_goals
            generalize hW : World.setCell _ _ _ = W8
            obtain ⟨y1, y2, y3, y4⟩ := set8 (HN.out.2 _ H2.out.1) hW
            exact conf_ret rfl rfl rfl y1 ⟨below_set (hb.trans (H2.out.1.mono (by omega))) y2 y3 y4, fun _ => rfl, fun h => absurd h he⟩
    · obtain rfl : k = n := by omega
      obtain ⟨x, v, role, hrd, hp⟩ := HX.out
      rw [List.drop_eq_nil_of_le (by rw [HL.out.2.1]; exact Nat.le_refl _)] at hp
      have hp : some (x, (0 : Int)) = some (xf, ef) := hp
      injection hp with hp
      obtain ⟨rfl, rfl⟩ := Prod.mk.inj hp
      obtain ⟨z0, z1, z2, z3, z4, z5, z6, z7, f0, f1, f2, f3, f4, f5, f6, f7⟩ := cells8 HZ.out
      obtain ⟨va, vn, vc, rfl⟩ := rd_slice hrd
      obtain ⟨q0, q1, q2, q3, q4, q5, q6, q7, q8, _⟩ := cells9 hrd.hR
      have HR : Aside (RdAt (w.heap.size + 1) wr (w.heap.size + 1 + 1 + 1) (w.heap.size + 1 + 1) (.slice va vn vc) role x) := hrd
      clear hrd
      go_wp2
      generalize hW : World.setCell _ _ _ = W8
      obtain ⟨y1, y2, y3, y4⟩ := set8 HZ.out hW
      refine conf_ret rfl rfl rfl y1 ⟨below_set hb y2 y3 y4, fun h => absurd rfl h, fun _ => ⟨_, role, rfl, HR.out.keep (fun b hr => y2 b (by have := (HR.out.lt b hr).1; omega)) (by rw [y3]; exact Nat.le_refl _)⟩⟩
theorem strs_any {P : Nat -> ByteArray -> Prop} : ∀ (l : List (List Int)), (∀ (i : Nat) (y : List Int), l[i]? = some y -> ∃ t : ByteArray, P i t /\ bytesL t = y) -> ∃ ws : List ByteArray, ws.map bytesL = l /\ ∀ (i : Nat) (t : ByteArray), ws[i]? = some t -> P i t := by
 intro l h
 have key : ∀ k, k <= l.length -> ∃ ws : List ByteArray, ws.map bytesL = l.take k /\ ∀ (i : Nat) (t : ByteArray), ws[i]? = some t -> P i t := by
  intro k
  induction k with
  | zero => exact fun _ => ⟨[], rfl, fun i t ht => by simp at ht⟩
  | succ k ih =>
   intro hk
   obtain ⟨ws, h1, h2⟩ := ih (by omega)
   have hget : l[k]? = some l[k] := List.getElem?_eq_getElem (by omega)
   obtain ⟨t, ht, ht2⟩ := h k _ hget
   have hl : ws.length = k := by
    have := congrArg List.length h1
    rw [List.length_map, List.length_take] at this
    omega
   refine ⟨ws ++ [t], ?_, fun i u hu => ?_⟩
   ·rw [List.map_append, h1, List.take_add_one, hget, <- ht2]; rfl
   ·rcases Nat.lt_or_ge i ws.length with hi | hi
    ·rw [List.getElem?_append_left hi] at hu
     exact h2 i u hu
    ·rw [List.getElem?_append_right hi] at hu
     have hi2 : i = k := by
      have := (List.getElem?_eq_some_iff.1 hu).1
      simp at this
      omega
     subst hi2
     rw [hl, Nat.sub_self] at hu
     injection hu with hu
     subst hu
     exact ht
 obtain ⟨ws, h1, h2⟩ := key l.length (Nat.le_refl _)
 exact ⟨ws, by rw [h1, List.take_length], h2⟩
theorem row_rep {lo : Nat} {w : World} {role : Nat -> Role} {ro : Role} {E : TypeId} {e : Ty} {l : List e.D} {v : Value} {C : Com} (h : RowAt lo w role ro E e l v) (he : flatT e = true) (hC : ∀ b o, v.ownBlock = some b -> o < List.length l * e.size -> C b o) : RepD w C (.sl e) l [v] := by
 obtain ⟨xs, h1, h2, h3⟩ := h
 rcases h1.2 with ⟨rfl, hn⟩ | ⟨g, cap, cur, rfl, hb, hg, hlc, hcm, hcs, ht⟩
 ·refine ⟨none, 0, 0, rfl, hn, Nat.le_refl _, by unfold maxLen; omega, fun i x hx => ?_⟩
  have hx : l[i]? = some x := hx
  have := (List.getElem?_eq_some_iff.1 hx).1
  omega
 ·refine ⟨_, _, _, rfl, rfl, hlc, hcm, fun i x hx => ?_⟩
  have hx : l[i]? = some x := hx
  have hi := (List.getElem?_eq_some_iff.1 hx).1
  have hr := h3 i x hx
  refine ⟨⟨g, 0, none⟩, (xs.drop (i * e.size)).take e.size, rfl, RepD.len hr, fun j u hj => ?_, repD_flat he hr⟩
  have hjl : j < e.size := by
   have h4 := (List.getElem?_eq_some_iff.1 hj).1
   have h5 := RepD.len hr
   omega
  rw [List.getElem?_take, if_pos hjl, List.getElem?_drop] at hj
  refine ⟨h1.cells (g := g) rfl _ u hj, ?_⟩
  refine hC g _ rfl ?_
  have h6 : (i + 1) * e.size <= List.length l * e.size := Nat.mul_le_mul_right _ hi
  rw [Nat.add_mul, Nat.one_mul] at h6
  show 0 + (i * e.size + j) < _
  omega
theorem user_rep {lo : Nat} {w : World} {role : Nat -> Role} {i : Nat} {u : UserD} {cs : List Value} {C : Com} (h : UserAt lo w role i u cs) (hC : ∀ b o, role b = .flat \/ role b = .row i -> C b o) : RepD w C userT u cs := by
 obtain ⟨nm, vs, vd, vr, rfl, h2, h3, h4, h5, h6, h7⟩ := h
 have k5 := row_rep (C := C) h5 rfl fun b o hb _ => hC b o (.inl (by obtain ⟨_, _, q, _⟩ := h5; exact q b hb))
 have k6 := row_rep (C := C) h6 rfl fun b o hb _ => hC b o (.inl (by obtain ⟨_, _, q, _⟩ := h6; exact q b hb))
 have k7 := row_rep (C := C) h7 rfl fun b o hb _ => hC b o (.inr (by obtain ⟨_, _, q, _⟩ := h7; exact q b hb))
 exact ⟨[_], _, rfl, ⟨nm, rfl, h2, h3⟩, [_, _], _, rfl, ⟨[_], [_], rfl, k5, k6⟩, [_], _, rfl, ⟨rfl, h4⟩, [_], _, rfl, rfl, k7⟩
def F_conf_Parse_sig : Sig := ⟨[.v false [.d (.sl .str)]], [(true, [.d (.int .i64), .d (.int .i64), .d (.int .i64), .d (.int .i64), .d (.int .i64), .d (.int .i64), .d (.int .i64), .own 63 (.pr .str (.pr (.pr (.sl (.int .u8)) (.sl (.int .u8))) (.pr (.int .i64) (.pr (.cpx .f64) (.sl (.pr .bool (.pr (.int .i64) (.pr .str (.pr (.pr .str (.int .i64)) (.pr (.int .i64) (.int .i64)))))))))))]), (false, [.d (.int .i64)])]⟩
abbrev ConfR := Int × Int × Int × Int × Int × Int × Int × List UserD × Int
noncomputable def F_conf_Parse (l : List (List Int)) : Option ConfR := cond (Nat.ble l.length 1000000) ((parseL l rst0).bind fun p => cond (decide (p.2 = 0)) (some (p.1.c0, p.1.c1, p.1.c2, p.1.c3, p.1.c4, p.1.c5, p.1.c6, p.1.us, 0)) (cond (decide (0 < p.2) && decide (p.2 < 10)) (some (0, 0, 0, 0, 0, 0, 0, [], p.2)) none)) none
theorem F_conf_Parse_sound {T : Tab} (h_maxlen : has_maxlen T) (h_pow10 : tab_pow10 ∈ T) (h_errs : has_errs T) : SoundFn Tryz.prog T 27 F_conf_Parse_sig ⟨F_conf_Parse⟩ := by
  refine sound_of rfl fun F g O xs ls y tmf w args hT hw hlim hls happ hsz hr => ?_
  obtain ⟨(l : List (List Int)), xs', rfl, h2⟩ := appF_inv_c (ts := []) happ
  obtain ⟨rfl, h3⟩ := appF_inv_n h2
  have hls' : some [Leaf.d (.sl .str) l] = some ls := hls
  injection hls' with hls'
  subst hls'
  obtain ⟨a, n, c, e0, e1, e2, e3, e4⟩ := rel_leaf.1 (hr 0)
  have e0 : args.getD 0 undef = .slice a n c := by injection e0
  rw [args_1 hsz, e0]
  have h3 : F_conf_Parse l = some y := h3
  unfold F_conf_Parse at h3
  cases hb : Nat.ble l.length 1000000 with
  | false => rw [hb] at h3; cases h3
  | true =>
    rw [hb, cond_true] at h3
    obtain ⟨⟨xf, ef⟩, hp, h3⟩ := Option.bind_eq_some_iff.1 h3
    have hble := Nat.le_of_ble_eq_true hb
    have e1 : l.length = n := e1
    obtain ⟨bs, hbs, hbc⟩ := strs_any (P := fun i t => ∃ ad, a = some ad /\ w.cell? (ad.add i) = some (.string t) /\ t.size <= maxLen) l fun i s hs => by
      obtain ⟨ad, us, q1, q2, q3, t, q4, q5, q6⟩ := e4 i s hs
      refine ⟨t, ⟨ad, q1, ?_, q6⟩, q5⟩
      have := (q3 0 (.string t) (by rw [q4]; rfl)).1
      rw [show (Ty.str).size = 1 from rfl, Nat.mul_one, Nat.add_zero] at this
      exact this
    have hbl : bs.length = n := by rw [<- e1, <- hbs, List.length_map]
    refine (par_walk ⟨h_pow10, h_errs, h_maxlen⟩ hT hbl (by omega) hbc (by rw [hbs]; exact hp)).mono ?_
    rintro e w' ⟨hbel, hno, hyes⟩
    by_cases he : ef = 0
    · subst he
      obtain ⟨v, role, rfl, hrd⟩ := hyes rfl
      have hy : ((xf.c0, xf.c1, xf.c2, xf.c3, xf.c4, xf.c5, xf.c6, xf.us, 0) : ConfR) = y := by
        have h3 : some _ = some y := h3
        injection h3
      subst hy
      obtain ⟨xs, u1, u2, u3⟩ := hrd.hU
      have hwfs := hrd.wf
      have ti : ∀ {C : Com} {bk : Tok -> Option Nat} {x : Int}, (Lit.int .i64 x).wf = true -> RepL F ⟨C, bk, g.ρ, fun _ _ => []⟩ w' (exitO F_conf_Parse_sig) (.d (.int .i64) x) [.int .i64 x] := fun h => ⟨rfl, h⟩
      have h70 : ∀ {k : Tok} {v0 : Option Nat} {b : Nat}, (match tokEq k (.hd 0 7) with | true => v0 | false => none) = some b -> k = .hd 0 7 /\ v0 = some b := fun {k v0 b} hk => by
        cases hq : tokEq k (.hd 0 7) with
        | false => rw [hq] at hk; cases hk
        | true =>
          rw [hq] at hk
          refine ⟨?_, hk⟩
          cases k with
          | hd d j =>
            have : (Nat.beq d 0 && Nat.beq j 7) = true := hq
            simp only [Bool.and_eq_true] at this
            rw [Nat.eq_of_beq_eq_true this.1, Nat.eq_of_beq_eq_true this.2]
          | zero => cases hq
          | op _ _ => cases hq
      have fin : ∀ (C' : Com) (bk : Option Nat), (∀ b o, b < w.heap.size -> (C' b o ↔ g.C b o)) -> (∀ b o, C' b o -> b < w'.heap.size) -> (∀ b, bk = some b -> w.heap.size <= b /\ b < w'.heap.size) -> RepL F ⟨C', fun k => match tokEq k (.hd 0 7) with | true => bk | false => none, g.ρ, fun _ _ => []⟩ w' (exitO F_conf_Parse_sig) (.own (.hd 0 7) 63 userT xf.us) [v] ->
          ∃ us os C' blk', Ending.returned (.tuple #[.agg #[.int .i64 xf.c0, .int .i64 xf.c1, .int .i64 xf.c2, .int .i64 xf.c3, .int .i64 xf.c4, .int .i64 xf.c5, .int .i64 xf.c6, v], .int .i64 0]) = .returned (retV us) /\ us.length = F_conf_Parse_sig.rs.length /\ mkLs (Tok.hd 0) F_conf_Parse_sig.outs 0 (unpackD (F_conf_Parse_sig.outs.map LT.ty) ((xf.c0, xf.c1, xf.c2, xf.c3, xf.c4, xf.c5, xf.c6, xf.us, 0) : ConfR)) = some os /\ Below w.heap.size w w' /\
            (∀ b o, b < w.heap.size -> (C' b o ↔ g.C b o)) /\ (∀ b o, C' b o -> b < w'.heap.size) /\ blk' .zero = none /\ (∀ k b, blk' k = some b -> w.heap.size <= b /\ b < w'.heap.size) /\ (∀ k k' b, blk' k = some b -> blk' k' = some b -> k = k') /\
            ∀ i, i < F_conf_Parse_sig.rs.length -> RelP F ⟨C', blk', g.ρ, fun _ _ => []⟩ w' (exitO F_conf_Parse_sig) tmf (us.getD i undef) (resAt F_conf_Parse_sig.rs os i) := fun C' bk h1 h2 h3 h4 => by
        refine ⟨[.agg #[.int .i64 xf.c0, .int .i64 xf.c1, .int .i64 xf.c2, .int .i64 xf.c3, .int .i64 xf.c4, .int .i64 xf.c5, .int .i64 xf.c6, v], .int .i64 0], _, C', fun k => match tokEq k (.hd 0 7) with | true => bk | false => none, rfl, rfl, rfl, hbel, h1, h2, rfl, fun k b hk => h3 b (h70 hk).2, fun k k' b hk hk' => (h70 hk).1.trans (h70 hk').1.symm, fun i hi => ?_⟩
        match i, hi with
        | 0, _ =>
          refine ⟨[.int .i64 xf.c0, .int .i64 xf.c1, .int .i64 xf.c2, .int .i64 xf.c3, .int .i64 xf.c4, .int .i64 xf.c5, .int .i64 xf.c6, v], ?_, rfl⟩
          have k0 : (Lit.int .i64 xf.c0).wf = true := hwfs _ (by simp [RSt.ints])
          have k1 : (Lit.int .i64 xf.c1).wf = true := hwfs _ (by simp [RSt.ints])
          have k2 : (Lit.int .i64 xf.c2).wf = true := hwfs _ (by simp [RSt.ints])
          have k3 : (Lit.int .i64 xf.c3).wf = true := hwfs _ (by simp [RSt.ints])
          have k4 : (Lit.int .i64 xf.c4).wf = true := hwfs _ (by simp [RSt.ints])
          have k5 : (Lit.int .i64 xf.c5).wf = true := hwfs _ (by simp [RSt.ints])
          have k6 : (Lit.int .i64 xf.c6).wf = true := hwfs _ (by simp [RSt.ints])
          exact ⟨[_], _, rfl, ti k0, [_], _, rfl, ti k1, [_], _, rfl, ti k2, [_], _, rfl, ti k3, [_], _, rfl, ti k4, [_], _, rfl, ti k5, [_], _, rfl, ti k6, [_], [], rfl, h4, rfl⟩
        | 1, _ => exact rel_leaf.2 ⟨rfl, rfl⟩
        | i + 2, hi => exact absurd hi (by show ¬ i + 2 < 2; omega)
      rcases u1.2 with ⟨rfl, hn0⟩ | ⟨U, cap, cur, rfl, hUlo, hcell, hlc, hcm, hcs, htake⟩
      · have hnil : xf.us = [] := List.eq_nil_of_length_eq_zero hn0
        refine fin g.C none (fun _ _ _ => Iff.rfl) (fun b o h => Nat.lt_of_lt_of_le (hlim b o h) hbel.size) (fun b h => (by cases h)) ?_
        rw [hnil]
        exact ⟨⟨none, 0, 0, rfl, rfl, Nat.le_refl _, by unfold maxLen; omega, fun i x hx => by
          have hx : List.nil[i]? = some x := hx
          simp at hx⟩, fun _ => ⟨_, rfl, .inl ⟨none, rfl, rfl, rfl⟩⟩⟩
      · have hUs : U < w'.heap.size := (Array.getElem?_eq_some_iff.1 hcell).1
        have hroU := u2 U rfl
        have hel : ∀ (i : Nat) (x : UserD), xf.us[i]? = some x -> RepD w' (fun b o => g.C b o \/ (w.heap.size <= b /\ b < w'.heap.size /\ (b = U -> o < xf.us.length * 6))) userT x ((cur.toList.drop (i * 6)).take 6) := fun i x hx => by
          have h1 := user_rep (C := fun b o => g.C b o \/ (w.heap.size <= b /\ b < w'.heap.size /\ (b = U -> o < xf.us.length * 6))) (u3 i x hx) fun b o hb => .inr (by
            have hne : role b ≠ .no := by rcases hb with hb | hb <;> (rw [hb]; intro e; cases e)
            have h2 := hrd.lt b hne
            refine ⟨by omega, h2.2, fun e => ?_⟩
            rw [e, hroU] at hb
            rcases hb with hb | hb <;> cases hb)
          rw [<- htake, take_row (List.getElem?_eq_some_iff.1 hx).1] at h1
          exact h1
        refine fin (fun b o => g.C b o \/ (w.heap.size <= b /\ b < w'.heap.size /\ (b = U -> o < xf.us.length * 6))) (some U) (fun b o hb => ⟨fun h => h.elim id fun h => absurd h.1 (by omega), .inl⟩) (fun b o h => h.elim (fun h => Nat.lt_of_lt_of_le (hlim b o h) hbel.size) fun h => h.2.1) (fun b h => by injection h with h; rw [<- h]; exact ⟨by omega, hUs⟩) ⟨⟨_, _, _, rfl, rfl, hlc, hcm, fun i x hx => ?_⟩, fun _ => ⟨_, rfl, .inr ⟨U, cap, cur, rfl, rfl, hcell, hlc, hcm, hcs, hel, fun o => ?_, fun o _ => .inl (by rw [hw]; omega)⟩⟩⟩
        · have hx : xf.us[i]? = some x := hx
          have hr := hel i x hx
          have hi := (List.getElem?_eq_some_iff.1 hx).1
          refine ⟨_, _, rfl, RepD.len hr, fun j u hj => ?_, hr⟩
          have hjl : j < 6 := by
            have h4 := (List.getElem?_eq_some_iff.1 hj).1
            have h5 : _ = 6 := RepD.len hr
            omega
          rw [List.getElem?_take, if_pos hjl, List.getElem?_drop] at hj
          rw [add_at]
          refine ⟨?_, .inr ⟨by show w.heap.size <= U; omega, hUs, fun _ => ?_⟩⟩
          · rw [cell_at hcell, <- Array.getElem?_toList, Nat.zero_add]; exact hj
          · show 0 + (i * 6 + j) < _
            omega
        · show (g.C U o \/ (w.heap.size <= U /\ U < w'.heap.size /\ (U = U -> o < xf.us.length * 6))) ↔ o < xf.us.length * 6
          constructor
          · rintro (h | h)
            · have := hlim _ _ h
              omega
            · exact h.2.2 rfl
          · intro h
            exact .inr ⟨by omega, hUs, fun _ => h⟩
    · rw [hno he]
      have h3 : cond (decide (ef = 0)) (some ((xf.c0, xf.c1, xf.c2, xf.c3, xf.c4, xf.c5, xf.c6, xf.us, 0) : ConfR)) (cond (decide (0 < ef) && decide (ef < 10)) (some ((0, 0, 0, 0, 0, 0, 0, [], ef) : ConfR)) none) = some y := h3
      rw [decide_eq_false he, cond_false] at h3
      cases hlt : (decide (0 < ef) && decide (ef < 10)) with
      | false => rw [hlt] at h3; cases h3
      | true =>
      rw [hlt] at h3
      have hy : ((0, 0, 0, 0, 0, 0, 0, [], ef) : ConfR) = y := by
        have h3 : some _ = some y := h3
        injection h3
      subst hy
      rw [Bool.and_eq_true, decide_eq_true_eq, decide_eq_true_eq] at hlt
      refine ⟨[.agg #[.int .i64 0, .int .i64 0, .int .i64 0, .int .i64 0, .int .i64 0, .int .i64 0, .int .i64 0, .slice none 0 0], .int .i64 ef], _, g.C, fun _ => none, rfl, rfl, rfl, hbel, fun _ _ _ => Iff.rfl, fun b o h => Nat.lt_of_lt_of_le (hlim b o h) hbel.size, rfl, fun k b h => (by cases h), fun k k' b h => (by cases h), fun i hi => ?_⟩
      match i, hi with
      | 0, _ =>
        have ti : ∀ {x : Int}, (Lit.int .i64 x).wf = true -> RepL F ⟨g.C, fun _ => none, g.ρ, fun _ _ => []⟩ w' (exitO F_conf_Parse_sig) (.d (.int .i64) x) [.int .i64 x] := fun h => ⟨rfl, h⟩
        refine ⟨[.int .i64 0, .int .i64 0, .int .i64 0, .int .i64 0, .int .i64 0, .int .i64 0, .int .i64 0, .slice none 0 0], ?_, rfl⟩
        refine ⟨[_], _, rfl, ti rfl, [_], _, rfl, ti rfl, [_], _, rfl, ti rfl, [_], _, rfl, ti rfl, [_], _, rfl, ti rfl, [_], _, rfl, ti rfl, [_], _, rfl, ti rfl, [_], [], rfl, ?_, rfl⟩
        exact ⟨⟨none, 0, 0, rfl, rfl, Nat.le_refl _, by unfold maxLen; omega, fun i x hx => by
          have hx : List.nil[i]? = some x := hx
          simp at hx⟩, fun _ => ⟨_, rfl, .inl ⟨none, rfl, rfl, rfl⟩⟩⟩
      | 1, _ =>
        have kw : (Lit.int .i64 ef).wf = true := wf_of (by omega)
        exact rel_leaf.2 ⟨rfl, kw⟩
      | i + 2, hi => exact absurd hi (by show ¬ i + 2 < 2; omega)
end Go.Proofs.YtgfmfgombmpodaaGreatDoor
namespace Go.Proofs.YtgfmfgombmpodaaGreatDoor
open Pv
set_option linter.unusedVariables false
noncomputable def F_wlvlaw18_first : Option (Bool) :=
 (F_conf_Parse ([] : List (List Int))).bind fun x1 =>
 cond (x1.2.2.2.2.2.2.2.2 == 0)
 (cond (x1.1 == 16)
 (cond (x1.2.1 == 100)
 (cond (x1.2.2.1 == 65535)
 (cond (x1.2.2.2.1 == 1000)
 (cond (x1.2.2.2.2.1 == 1000000)
 (cond (x1.2.2.2.2.2.1 == 1000)
 (cond (x1.2.2.2.2.2.2.1 == 16384)
 (some ((x1.2.2.2.2.2.2.2.1.length : Int) == 0))
 (some false))
 (some false))
 (some false))
 (some false))
 (some false))
 (some false))
 (some false))
 (some false)
def F_wlvlaw18_first_sig : Sig := ⟨[], [(false, [.d .bool])]⟩
def F_wlvlaw18_first_ann : List (Nat × Ann) := []
noncomputable def F_wlvlaw18_first_env : Env := ⟨Tryz.prog, [(27, ⟨F_conf_Parse_sig, ⟨F_conf_Parse⟩⟩)], []⟩
theorem F_wlvlaw18_first_text : pvFn F_wlvlaw18_first_env F_wlvlaw18_first_ann Tryz.f25 F_wlvlaw18_first_sig = F_wlvlaw18_first := by kernel_rfl
noncomputable def F_bytes_Equal (l1 : List Int) (l2 : List Int) : Option (Bool) :=
 some (l1 == l2)
def F_bytes_Equal_sig : Sig := ⟨[.v false [.d (.sl (.int .u8))], .v false [.d (.sl (.int .u8))]], [(false, [.d .bool])]⟩
def F_bytes_Equal_ann : List (Nat × Ann) := []
noncomputable def F_bytes_Equal_env : Env := ⟨Tryz.prog, [], []⟩
theorem F_bytes_Equal_text : pvFn F_bytes_Equal_env F_bytes_Equal_ann Tryz.f63 F_bytes_Equal_sig = F_bytes_Equal := by kernel_rfl
noncomputable def F_slices_Equal_conf_Rule_conf_Rule_L6 (l1 : List RuleD) (l2 : List RuleD) (s : Int) : Option (((Bool) ⊕ (Unit)) ⊕ (Int)) :=
 let i3 := s
 cond (decide (i3 < (l1.length : Int)))
 ((getI l1 i3).bind fun x4 =>
 (getI l2 i3).bind fun x5 =>
 cond (!((bEq x4.1 x5.1) && ((eqI x4.2.1 x5.2.1) && ((eqL x4.2.2.1 x5.2.2.1) && (((eqL x4.2.2.2.1.1 x5.2.2.2.1.1) && ((eqI x4.2.2.2.1.2 x5.2.2.2.1.2) && true)) && ((eqI x4.2.2.2.2.1 x5.2.2.2.2.1) && ((eqI x4.2.2.2.2.2 x5.2.2.2.2.2) && true)))))))
 (some (.inl (.inl false)))
 (some (.inr (IntKind.i64.wrap (i3 + 1)))))
 (some (.inl (.inr ())))
noncomputable def F_slices_Equal_conf_Rule_conf_Rule_J4 (s : Unit) : Option (Bool) :=
 some true
noncomputable def F_slices_Equal_conf_Rule_conf_Rule (l1 : List RuleD) (l2 : List RuleD) : Option (Bool) :=
 cond ((l1.length : Int) != (l2.length : Int))
 (some false)
 (joinC (S := Unit) (R := Bool)
 (loopC (S := Int) (R := (Bool) ⊕ (Unit)) (F_slices_Equal_conf_Rule_conf_Rule_L6 l1 l2) 0)
 (F_slices_Equal_conf_Rule_conf_Rule_J4))
def F_slices_Equal_conf_Rule_conf_Rule_sig : Sig := ⟨[.v false [.d (.sl (.pr .bool (.pr (.int .i64) (.pr .str (.pr (.pr .str (.int .i64)) (.pr (.int .i64) (.int .i64)))))))], .v false [.d (.sl (.pr .bool (.pr (.int .i64) (.pr .str (.pr (.pr .str (.int .i64)) (.pr (.int .i64) (.int .i64)))))))]], [(false, [.d .bool])]⟩
def F_slices_Equal_conf_Rule_conf_Rule_ann : List (Nat × Ann) := [(4, ⟨5, [], [], ([4, 5] ++ List.range' 11 15), []⟩), (6, ⟨7, [(13, false, [.d (.int .i64)])], [], ([4, 5] ++ List.range' 14 12), []⟩)]
noncomputable def F_slices_Equal_conf_Rule_conf_Rule_env : Env := ⟨Tryz.prog, [], []⟩
theorem F_slices_Equal_conf_Rule_conf_Rule_text : pvFn F_slices_Equal_conf_Rule_conf_Rule_env F_slices_Equal_conf_Rule_conf_Rule_ann Tryz.f64 F_slices_Equal_conf_Rule_conf_Rule_sig = F_slices_Equal_conf_Rule_conf_Rule := by kernel_rfl
noncomputable def F_conf_Same_1 (s1 : List Int) (l2 : List Int) (l3 : List Int) (i4 : Int) (z5 : (Nat × Nat)) (l6 : List RuleD) (s7 : List Int) (l8 : List Int) (l9 : List Int) (i10 : Int) (z11 : (Nat × Nat)) (l12 : List RuleD) : Option (Bool) :=
 cond (s1 == s7)
 ((F_bytes_Equal l2 l8).bind fun b13 =>
 cond b13
 ((F_bytes_Equal l3 l9).bind fun b14 =>
 cond b14
 (cond (i4 == i10)
 (cond (feq .f64 z5.1 z11.1 && feq .f64 z5.2 z11.2)
 ((F_slices_Equal_conf_Rule_conf_Rule l6 l12).bind fun b15 =>
 some b15)
 (some false))
 (some false))
 (some false))
 (some false))
 (some false)
def F_conf_Same_1_sig : Sig := ⟨[.v true [.d .str, .d (.sl (.int .u8)), .d (.sl (.int .u8)), .d (.int .i64), .d (.cpx .f64), .d (.sl (.pr .bool (.pr (.int .i64) (.pr .str (.pr (.pr .str (.int .i64)) (.pr (.int .i64) (.int .i64)))))))], .v true [.d .str, .d (.sl (.int .u8)), .d (.sl (.int .u8)), .d (.int .i64), .d (.cpx .f64), .d (.sl (.pr .bool (.pr (.int .i64) (.pr .str (.pr (.pr .str (.int .i64)) (.pr (.int .i64) (.int .i64)))))))]], [(false, [.d .bool])]⟩
def F_conf_Same_1_ann : List (Nat × Ann) := []
noncomputable def F_conf_Same_1_env : Env := ⟨Tryz.prog, [(63, ⟨F_bytes_Equal_sig, ⟨F_bytes_Equal⟩⟩), (64, ⟨F_slices_Equal_conf_Rule_conf_Rule_sig, ⟨F_slices_Equal_conf_Rule_conf_Rule⟩⟩)], []⟩
theorem F_conf_Same_1_text : pvFn F_conf_Same_1_env F_conf_Same_1_ann Tryz.f62 F_conf_Same_1_sig = F_conf_Same_1 := by kernel_rfl
end Go.Proofs.YtgfmfgombmpodaaGreatDoor
namespace Go.Proofs.YtgfmfgombmpodaaGreatDoor
open Pv
theorem F_bytes_Equal_sound {T : Tab} : SoundFn Tryz.prog T 63 F_bytes_Equal_sig ⟨F_bytes_Equal⟩ := by
 have h := fn_sound (T := T) (E := F_bytes_Equal_env) (by unfold Env.ok; exact fun p h => by cases h) (A := F_bytes_Equal_ann) (f := 63) (fn := Tryz.f63) (s := F_bytes_Equal_sig) Tryz.func63
 rw [F_bytes_Equal_text] at h
 exact h
theorem F_slices_Equal_conf_Rule_conf_Rule_sound {T : Tab} : SoundFn Tryz.prog T 64 F_slices_Equal_conf_Rule_conf_Rule_sig ⟨F_slices_Equal_conf_Rule_conf_Rule⟩ := by
 have h := fn_sound (T := T) (E := F_slices_Equal_conf_Rule_conf_Rule_env) (by unfold Env.ok; exact fun p h => by cases h) (A := F_slices_Equal_conf_Rule_conf_Rule_ann) (f := 64) (fn := Tryz.f64) (s := F_slices_Equal_conf_Rule_conf_Rule_sig) Tryz.func64
 rw [F_slices_Equal_conf_Rule_conf_Rule_text] at h
 exact h
theorem F_conf_Same_1_sound {T : Tab} : SoundFn Tryz.prog T 62 F_conf_Same_1_sig ⟨F_conf_Same_1⟩ := by
 have h := fn_sound (T := T) (E := F_conf_Same_1_env) (by unfold Env.ok; exact List.forall_mem_cons.2 ⟨F_bytes_Equal_sound, List.forall_mem_cons.2 ⟨F_slices_Equal_conf_Rule_conf_Rule_sound, fun p h => by cases h⟩⟩) (A := F_conf_Same_1_ann) (f := 62) (fn := Tryz.f62) (s := F_conf_Same_1_sig) Tryz.func62
 rw [F_conf_Same_1_text] at h
 exact h
end Go.Proofs.YtgfmfgombmpodaaGreatDoor
namespace Go.Proofs.YtgfmfgombmpodaaGreatDoor
open Go.RowKit Pv
set_option linter.unusedVariables false
noncomputable def sameU (u v : UserD) : Option Bool := F_conf_Same_1 u.1 u.2.1.1 u.2.1.2 u.2.2.1 u.2.2.2.1 u.2.2.2.2 v.1 v.2.1.1 v.2.1.2 v.2.2.1 v.2.2.2.1 v.2.2.2.2
noncomputable def eqfL : List UserD -> List UserD -> Option Bool
 | [], _ => some true
 | u :: us, v :: vs => (sameU u v).bind fun b => cond b (eqfL us vs) (some false)
 | _ :: _, [] => none
noncomputable def eqfP (us vs : List UserD) : Option Bool := cond (Nat.beq us.length vs.length) (eqfL us vs) (some false)
theorem same1_calls {W : World} {u v : UserD} {cs ds : List Value} (hu : RepD W (C00 W) userT u cs) (hv : RepD W (C00 W) userT v ds) {b : Bool} (h : sameU u v = some b) :
  Calls Tryz.prog 62 #[.agg ⟨cs⟩, .agg ⟨ds⟩] W fun e W' => e = .returned (.bool b) /\ Below W.heap.size W W' := by
 have hT : ∀ p ∈ ([] : Tab), ∃ ty fr, W.heap[p.1]? = some (.cells p.2 ty fr) := fun p hp => by cases hp
 refine (fn_calls (s := F_conf_Same_1_sig) hT F_conf_Same_1_sound (al := [Arg.mk true (flat userT u) (.agg ⟨cs⟩), Arg.mk true (flat userT v) (.agg ⟨ds⟩)]) (y := b) rfl Tryz.func62 (fun a ha => ?_) ?_).mono fun e W' ⟨us, g', st', h1, h2, h3, h4, h5⟩ => ?_
 ·rcases List.mem_cons.1 ha with rfl | ha
  ·exact Arg.mk_ok (τ := userT) (ag := true) hu rfl
  ·rcases List.mem_cons.1 ha with rfl | ha
   ·exact Arg.mk_ok (τ := userT) (ag := true) hv rfl
   ·cases ha
 ·exact h
 ·match us, h2 with
  | [x], _ =>
  refine ⟨?_, h4⟩
  have h3 : some _ = some st' := h3
  injection h3 with h3
  subst h3
  have := rBool (h5 0)
  rw [h1]
  show Ending.returned x = _
  rw [show x = _ from this]
  rfl
theorem store_cpz {P : Program} {w : World} (a : Addr) (m : Mode) (k : FloatKind) (x y : Nat) : (store a (.complex k x y) m).run P w = stored P w a (.complex k x y) m := run_store P w a _ m rfl
theorem rep_user {w : World} {C : Com} {us : List UserD} {a : Option Addr} {n c : Nat} (h : RepD w C (.sl userT) us [.slice a n c]) : us.length = n /\ ∀ (i : Nat) (u : UserD), us[i]? = some u -> ∃ (B o : Nat) (cs : List Value), a = some ⟨B, o, none⟩ /\ cs.length = 6 /\ RepD w C userT u cs /\ ∀ j x, cs[j]? = some x -> w.cell? ⟨B, o + (i * 6 + j), none⟩ = some x := by
 obtain ⟨a', n', c', e0, e1, e2, e3, e4⟩ := h
 injection e0 with e0 _
 injection e0 with q1 q2 q3
 subst q1; subst q2; subst q3
 refine ⟨e1, fun i u hu => ?_⟩
 obtain ⟨ad, cs, r1, r2, r3, r4⟩ := e4 i u hu
 have hlen : cs.length = 6 := r2
 have hsp : ad.spot = none := by
  obtain ⟨u0, hu0⟩ : ∃ u0, us[0]? = some u0 := ⟨_, List.getElem?_eq_getElem (by have := (List.getElem?_eq_some_iff.1 hu).1; omega)⟩
  obtain ⟨ad', cs', s1, s2, s3, s4⟩ := e4 0 u0 hu0
  rw [r1] at s1
  injection s1 with s1
  subst s1
  have hlen' : cs'.length = 6 := s2
  have hc0 := (s3 0 _ (List.getElem?_eq_getElem (by omega))).1
  rw [Nat.zero_mul, Nat.zero_add, show ad.add 0 = ad from by unfold Addr.add; simp] at hc0
  unfold World.cell? at hc0
  split at hc0
  ·split at hc0
   ·cases hc0
   ·rename_i hs
    cases hsx : ad.spot with
    | none => rfl
    | some q => rw [hsx] at hs; simp at hs
  ·cases hc0
 obtain ⟨B, o, sp⟩ := ad
 cases hsp
 refine ⟨B, o, cs, r1, hlen, r4, fun j x hj => ?_⟩
 have := (r3 j x hj).1
 rw [add_at] at this
 exact this
theorem rep_later {w w' : World} {t : Ty} {x : t.D} {cs : List Value} (h : RepD w (C00 w) t x cs) (hb : Below w.heap.size w w') : RepD w' (C00 w') t x cs :=
 h.gw fun a u ha hc => ⟨(hb.cell (cell_lt ha)).trans ha, show a.block < w'.heap.size from Nat.lt_of_lt_of_le (cell_lt ha) hb.size⟩
theorem user_form {w : World} {C : Com} {u : UserD} {cs : List Value} (h : RepD w C userT u cs) : ∃ (s : ByteArray) (a1 a2 a3 : Option Addr) (n1 n2 n3 c1 c2 c3 : Nat), cs = [.string s, .slice a1 n1 c1, .slice a2 n2 c2, .int .i64 u.2.2.1, .complex .f64 u.2.2.2.1.1 u.2.2.2.1.2, .slice a3 n3 c3] := by
 obtain ⟨k1, k2, rfl, ⟨s, rfl, _⟩, l1, l2, rfl, ⟨m1, m2, rfl, ⟨a1, n1, c1, rfl, _⟩, ⟨a2, n2, c2, rfl, _⟩⟩, o1, o2, rfl, ⟨rfl, _⟩, p1, p2, rfl, rfl, ⟨a3, n3, c3, rfl, _⟩⟩ := h
 exact ⟨_, _, _, _, _, _, _, _, _, _, rfl⟩
set_option maxHeartbeats 8000000 in
set_option maxRecDepth 1000000 in
theorem eqf_walk {w : World} {us vs : List UserD} {a b : Option Addr} {n m c d : Nat} (hu : RepD w (C00 w) (.sl userT) us [.slice a n c]) (hv : RepD w (C00 w) (.sl userT) vs [.slice b m d]) (hn : n <= 1000000) {r : Bool} (h : eqfP us vs = some r) :
    Calls Tryz.prog 61 #[.slice a n c, .slice b m d, .func (.func 62) #[] #[]] w fun e w' => e = .returned (.bool r) /\ Below w.heap.size w w' := by
  obtain ⟨hul, hu1⟩ := rep_user hu
  obtain ⟨hvl, hv1⟩ := rep_user hv
  have HC : Aside ((∀ (i : Nat) (u : UserD), us[i]? = some u -> ∃ (B o : Nat) (cs : List Value), a = some ⟨B, o, none⟩ /\ cs.length = 6 /\ RepD w (C00 w) userT u cs /\ ∀ j x, cs[j]? = some x -> w.cell? ⟨B, o + (i * 6 + j), none⟩ = some x) /\ ∀ (i : Nat) (u : UserD), vs[i]? = some u -> ∃ (B o : Nat) (cs : List Value), b = some ⟨B, o, none⟩ /\ cs.length = 6 /\ RepD w (C00 w) userT u cs /\ ∀ j x, cs[j]? = some x -> w.cell? ⟨B, o + (i * 6 + j), none⟩ = some x) := ⟨hu1, hv1⟩
  have HL : Aside (us.length = n /\ vs.length = m) := ⟨hul, hvl⟩
  have HH : Aside (eqfP us vs = some r) := h
  clear hu hv hu1 hv1 hul hvl h
  by_cases hnm : n = m
  · subst hnm
    have h : eqfL us vs = some r := by
      have h := HH.out
      unfold eqfP at h
      rw [HL.out.1, HL.out.2, show Nat.beq n n = true from by simp, cond_true] at h
      exact h
    have HE : Aside (eqfL us vs = some r) := h
    clear h HH
    go_enter Tryz.func61, Tryz.ntmps61
    go_wp2
    go_loopw [17] (fun v wr => ∃ k : Nat, k <= n /\ v = .int .i64 k /\ Below w.heap.size w wr /\ Aside (eqfL (us.drop k) (vs.drop k) = some r)) (fun v _ => n - (RowKit.intOf v).toNat)
    case atStart => exact ⟨0, by omega, rfl, Below.refl _ _, HE.out⟩
    case round =>
      obtain ⟨k, hk, rfl, hb, HA⟩ := hrel
      by_cases hlt : k < n
      · obtain ⟨u, hku⟩ : ∃ u, us[k]? = some u := ⟨_, List.getElem?_eq_getElem (by rw [HL.out.1]; exact hlt)⟩
        obtain ⟨v, hkv⟩ : ∃ v, vs[k]? = some v := ⟨_, List.getElem?_eq_getElem (by rw [HL.out.2]; exact hlt)⟩
        obtain ⟨B, o, cs, rfl, hcs6, hru, hcu⟩ := HC.out.1 k u hku
        obtain ⟨B', o', ds, rfl, hds6, hrv, hdv⟩ := HC.out.2 k v hkv
        obtain ⟨s1, p1, p2, p3, n1, n2, n3, e1, e2, e3, rfl⟩ := user_form hru
        obtain ⟨s2, q1, q2, q3, m1, m2, m3, f1, f2, f3, rfl⟩ := user_form hrv
        have cell : ∀ {p : Addr} {z : Value}, w.cell? p = some z -> wr.cell? p = some z := fun hp => (hb.cell (cell_lt hp)).trans hp
        have a0 := cell (hcu 0 _ rfl)
        have a1 := cell (hcu 1 _ rfl)
        have a2 := cell (hcu 2 _ rfl)
        have a3 := cell (hcu 3 _ rfl)
        have a4 := cell (hcu 4 _ rfl)
        have a5 := cell (hcu 5 _ rfl)
        have b0 := cell (hdv 0 _ rfl)
        have b1 := cell (hdv 1 _ rfl)
        have b2 := cell (hdv 2 _ rfl)
        have b3 := cell (hdv 3 _ rfl)
        have b4 := cell (hdv 4 _ rfl)
        have b5 := cell (hdv 5 _ rfl)
        simp only [Nat.add_zero, <- Nat.add_assoc] at a0 a1 a2 a3 a4 a5 b0 b1 b2 b3 b4 b5
        have hAlt := cell_lt a0
        have hBlt := cell_lt b0
        have hun : us.drop k = u :: us.drop (k + 1) := by
          have := List.drop_eq_getElem_cons (l := us) (i := k) (by rw [HL.out.1]; exact hlt)
          rw [this]
          congr 1
          have h2 := List.getElem?_eq_getElem (l := us) (i := k) (by rw [HL.out.1]; exact hlt)
          rw [h2] at hku
          injection hku
        have hvn : vs.drop k = v :: vs.drop (k + 1) := by
          have := List.drop_eq_getElem_cons (l := vs) (i := k) (by rw [HL.out.2]; exact hlt)
          rw [this]
          congr 1
          have h2 := List.getElem?_eq_getElem (l := vs) (i := k) (by rw [HL.out.2]; exact hlt)
          rw [h2] at hkv
          injection hkv
        have hA := HA.out
        rw [hun, hvn] at hA
        obtain ⟨q, hq, hA⟩ := Option.bind_eq_some_iff.1 (show (sameU u v).bind (fun b => cond b (eqfL (us.drop (k + 1)) (vs.drop (k + 1))) (some false)) = some r from hA)
        have hcl : ∀ {W : World}, Below wr.heap.size wr W -> Calls Tryz.prog 62 #[.agg #[.string s1, .slice p1 n1 e1, .slice p2 n2 e2, .int .i64 u.2.2.1, .complex .f64 u.2.2.2.1.1 u.2.2.2.1.2, .slice p3 n3 e3], .agg #[.string s2, .slice q1 m1 f1, .slice q2 m2 f2, .int .i64 v.2.2.1, .complex .f64 v.2.2.2.1.1 v.2.2.2.1.2, .slice q3 m3 f3]] W fun e W' => e = .returned (.bool q) /\ Below W.heap.size W W' := fun hW => same1_calls (rep_later (rep_later hru hb) hW) (rep_later (rep_later hrv hb) hW) hq
        have hcl := @hcl
        have HQ : Aside (cond q (eqfL (us.drop (k + 1)) (vs.drop (k + 1))) (some false) = some r) := hA
        have hs : w.heap.size <= wr.heap.size := hb.size
        clear hku hkv hru hrv hcu hdv hcs6 hds6 hun hvn hA HA hq HC
        have hsc := @store_cpz Tryz.prog
        cases q with
        | true =>
          go_wp2_with (first | (go_at_call 62; refine (hcl ?bel).mono ?_; rotate_left; rintro e w' ⟨rfl, hw'⟩) | go_in)
          case bel => exact ((Below.refl _ _).alloc (Nat.le_refl _) _).alloc (by simp) _
          refine ⟨⟨k + 1, by omega, by simp, ((hb.alloc hs _).alloc (by simp; omega) _).trans (hw'.mono (by simp; omega)), HQ.out⟩, by simp [RowKit.intOf]; omega⟩
        | false =>
          have hr : false = r := Option.some.inj HQ.out
          subst hr
          go_wp2_with (first | (go_at_call 62; refine (hcl ?bel).mono ?_; rotate_left; rintro e w' ⟨rfl, hw'⟩) | go_in)
          case bel => exact ((Below.refl _ _).alloc (Nat.le_refl _) _).alloc (by simp) _
          go_ret
          exact ⟨rfl, ((hb.alloc hs _).alloc (by simp; omega) _).trans (hw'.mono (by simp; omega))⟩
      · obtain rfl : k = n := by omega
        have hr : true = r := by
          have h := HA.out
          rw [List.drop_of_length_le (by rw [HL.out.1]; omega)] at h
          exact Option.some.inj h
        subst hr
        go_wp2
        go_ret
        exact ⟨rfl, hb⟩
  · have hr : false = r := by
      have h := HH.out
      unfold eqfP at h
      rw [HL.out.1, HL.out.2, show Nat.beq n m = false from Bool.eq_false_iff.2 fun e => hnm (Nat.eq_of_beq_eq_true e), cond_false] at h
      exact Option.some.inj h
    subst hr
    clear HH HC HL
    go_enter Tryz.func61, Tryz.ntmps61
    go_wp2
    go_ret
    exact ⟨rfl, Below.refl _ _⟩
def confV (C : Nat -> Int) (v : Value) : Array Value := #[.int .i64 (C 0), .int .i64 (C 1), .int .i64 (C 2), .int .i64 (C 3), .int .i64 (C 4), .int .i64 (C 5), .int .i64 (C 6), v]
noncomputable def sameC (C D : Nat -> Int) (us vs : List UserD) : Option Bool := cond ((List.range 7).all fun k => C k == D k) (eqfP us vs) (some false)
theorem conf_cell {w : World} {B : Nat} {T : TypeId} {C : Nat -> Int} {v : Value} (h : w.heap[B]? = some (.cells (confV C v) T (0, 0))) {k : Nat} (hk : k < 7) : w.cell? ⟨B, k, none⟩ = some (.int .i64 (C k)) := by
 rw [cell_at h]
 match k, hk with
 | 0, _ => rfl
 | 1, _ => rfl
 | 2, _ => rfl
 | 3, _ => rfl
 | 4, _ => rfl
 | 5, _ => rfl
 | 6, _ => rfl
set_option maxHeartbeats 8000000 in
set_option maxRecDepth 1000000 in
theorem same_walk {w : World} {C D : Nat -> Int} {us vs : List UserD} {a b : Option Addr} {n m c d : Nat} (hu : RepD w (C00 w) (.sl userT) us [.slice a n c]) (hv : RepD w (C00 w) (.sl userT) vs [.slice b m d]) (hn : n <= 1000000) {r : Bool} (h : sameC C D us vs = some r) :
  Calls Tryz.prog 31 #[.agg (confV C (.slice a n c)), .agg (confV D (.slice b m d))] w fun e w' => e = .returned (.bool r) /\ Below w.heap.size w w' := by
 have HU : Aside (RepD w (C00 w) (.sl userT) us [.slice a n c] /\ RepD w (C00 w) (.sl userT) vs [.slice b m d] /\ sameC C D us vs = some r) := ⟨hu, hv, h⟩
 clear hu hv h
 go_enter Tryz.func31, Tryz.ntmps31
 go_wp2_with (go_at_call 60; refine (lims_walk w.heap.size _).mono ?_; rintro e W1 ⟨rfl, hB, hb1⟩)
 have hs1 : w.heap.size + 3 <= W1.heap.size := by have := (Array.getElem?_eq_some_iff.1 hB).1; simp at this; omega
 have hC1 : W1.heap[w.heap.size]? = some (.cells (confV C (.slice a n c)) 51 (0, 0)) := by
  rw [hb1.block _ (by simp; omega), heap_alloc_old _ _ (by simp), heap_alloc_new]
 have hD1 : W1.heap[w.heap.size + 1]? = some (.cells (confV D (.slice b m d)) 51 (0, 0)) := by
  rw [hb1.block _ (by simp), show w.heap.size + 1 = (w.alloc (.cells (confV C (.slice a n c)) 51)).heap.size from by simp, heap_alloc_new]
 have hb1 : Below w.heap.size w W1 := ⟨hb1.os, hb1.tape, hb1.output, by omega, fun b hb => (hb1.block b (by simp; omega)).trans (by rw [heap_alloc_old _ _ (by simp; omega), heap_alloc_old _ _ hb])⟩
 have HB : Aside (W1.heap[w.heap.size + 1 + 1]? = some (.cells (limCells w.heap.size) 124 (0, 0)) /\ W1.heap[w.heap.size]? = some (.cells (confV C (.slice a n c)) 51 (0, 0)) /\ W1.heap[w.heap.size + 1]? = some (.cells (confV D (.slice b m d)) 51 (0, 0))) := ⟨by simpa using hB, hC1, hD1⟩
 clear hB hC1 hD1
 go_loopw [9] (fun vi wr => ∃ k : Nat, vi = .int .i64 k /\ k <= 7 /\ Below W1.heap.size W1 wr /\ Aside (∀ j, j < k -> C j = D j)) (fun vi _ => 7 - (intOf vi).toNat)
 case atStart => exact ⟨0, rfl, by omega, Below.refl _ _, fun j hj => absurd hj (by omega)⟩
 case round =>
  obtain ⟨k, rfl, hk, hbr, HA⟩ := hrel
  have hb2 : Below w.heap.size w wr := hb1.trans (hbr.mono hb1.size)
  have blk : ∀ {B : Nat} {o : Obj}, W1.heap[B]? = some o -> wr.heap[B]? = some o := fun h => (hbr.block _ (Array.getElem?_eq_some_iff.1 h).1).trans h
  have hLr := blk HB.out.1
  have hCr := blk HB.out.2.1
  have hDr := blk HB.out.2.2
  have hsr : w.heap.size + 3 <= wr.heap.size := Nat.le_trans hs1 hbr.size
  have hl0 : w.heap.size < wr.heap.size := by omega
  have hl1 : w.heap.size + 1 < wr.heap.size := by omega
  by_cases hk7 : k < 7
  ·obtain ⟨k0, k1, k2, k3⟩ := lim_at hLr hk7
   have hCk := conf_cell hCr hk7
   obtain ⟨lw, hlw⟩ : ∃ lw, limW k = lw := ⟨_, rfl⟩
   obtain ⟨llo, hllo⟩ : ∃ l, limLo k = l := ⟨_, rfl⟩
   obtain ⟨lhi, hlhi⟩ : ∃ l, limHi k = l := ⟨_, rfl⟩
   rw [hlw] at k0
   rw [hllo] at k1
   rw [hlhi] at k2
   have key : ∀ W' W2 : World, W'.heap = (wr.alloc (.cells #[.string lw, .int .i64 llo, .int .i64 lhi, .pointer (some ⟨w.heap.size, k, none⟩)] 124)).heap -> Below W'.heap.size W' W2 -> W2.heap[wr.heap.size + 1]? = some (.cells (limCells (w.heap.size + 1)) 124 (0, 0)) -> W2.cell? ⟨wr.heap.size + 1, k * 4 + 3, none⟩ = some (.pointer (some ⟨w.heap.size + 1, k, none⟩)) /\ W2.cell? ⟨w.heap.size + 1, k, none⟩ = some (.int .i64 (D k)) /\ W2.cell? ⟨wr.heap.size, 3, none⟩ = some (.pointer (some ⟨w.heap.size, k, none⟩)) /\ W2.cell? ⟨w.heap.size, k, none⟩ = some (.int .i64 (C k)) /\ wr.heap.size + 2 <= W2.heap.size := by
    intro W' W2 hW hb hL
    have hz : W'.heap.size = wr.heap.size + 1 := by rw [hW]; simp
    have old : ∀ {B : Nat} {o : Obj}, wr.heap[B]? = some o -> W2.heap[B]? = some o := fun {B o} h => by
     have hB := (Array.getElem?_eq_some_iff.1 h).1
     rw [hb.block B (by omega), hW, heap_alloc_old _ _ hB, h]
    refine ⟨(lim_at hL hk7).2.2.2, conf_cell (old hDr) hk7, ?_, conf_cell (old hCr) hk7, (Array.getElem?_eq_some_iff.1 hL).1⟩
    rw [cell_at (show W2.heap[wr.heap.size]? = _ from by rw [hb.block _ (by omega), hW, heap_alloc_new])]
    rfl
   have hkey : Aside _ := key
   have HR : Aside (_ /\ _ /\ _) := ⟨hLr, hCr, hDr⟩
   clear key hlw hllo hlhi hLr hCr hDr blk
   go_wp2
   go_region_with (go_at_call 60; (refine (lims_walk (w.heap.size + 1) _).mono ?_; rintro e W2 ⟨rfl, hL2, hb3⟩; obtain ⟨d1, d2, d3, d4, d5⟩ := hkey.out _ W2 (by rfl) hb3 (by simpa using hL2)))
   all_goals
    have hb4 : Below W1.heap.size W1 W2 := hbr.trans ⟨hb3.os, hb3.tape, hb3.output, by omega, fun b hb => (hb3.block b (by simp [World.drew]; have := hbr.size; omega)).trans (heap_alloc_old wr _ (Nat.lt_of_lt_of_le hb hbr.size))⟩
    cases hq : (C k != D k) with
    | false =>
     go_wp2
     refine ⟨⟨k + 1, by simp, by omega, hb4, fun j hj => ?_⟩, by simp [intOf]; omega⟩
     rcases Nat.lt_or_ge j k with h | h
     ·exact HA.out j h
     ·obtain rfl : j = k := by omega
      simpa using hq
    | true =>
     go_wp2
     go_ret
     have hr := HU.out.2.2
     unfold sameC at hr
     rw [show ((List.range 7).all fun k => C k == D k) = false from by
      rw [List.all_eq_false]
      exact ⟨k, List.mem_range.2 hk7, by simpa using hq⟩] at hr
     injection hr with hr
     subst hr
     refine ⟨rfl, hb1.trans (hb4.mono hb1.size)⟩
  ·have hk7 : k = 7 := by omega
   subst hk7
   have hr := HU.out.2.2
   unfold sameC at hr
   rw [show ((List.range 7).all fun k => C k == D k) = true from by
    rw [List.all_eq_true]
    exact fun j hj => by simpa using HA.out j (List.mem_range.1 hj)] at hr
   have hC7 : wr.cell? ⟨w.heap.size, 7, none⟩ = some (.slice a n c) := by rw [cell_at hCr]; rfl
   have hD7 : wr.cell? ⟨w.heap.size + 1, 7, none⟩ = some (.slice b m d) := by rw [cell_at hDr]; rfl
   have hcl : Calls Tryz.prog 61 #[.slice a n c, .slice b m d, .func (.func 62) #[] #[]] wr fun e w' => e = .returned (.bool r) /\ Below wr.heap.size wr w' := eqf_walk (rep_later HU.out.1 hb2) (rep_later HU.out.2.1 hb2) hn hr
   go_wp2_with (go_at_call 61; refine hcl.mono ?_; rintro e w9 ⟨rfl, hb9⟩)
   all_goals
    go_ret
    exact ⟨rfl, hb2.trans (hb9.mono (by omega))⟩
def seven (c0 c1 c2 c3 c4 c5 c6 : Int) : Nat -> Int
 | 0 => c0
 | 1 => c1
 | 2 => c2
 | 3 => c3
 | 4 => c4
 | 5 => c5
 | _ => c6
def F_conf_Same_sig : Sig := ⟨[.v true [.d (.int .i64), .d (.int .i64), .d (.int .i64), .d (.int .i64), .d (.int .i64), .d (.int .i64), .d (.int .i64), .d (.sl userT)], .v true [.d (.int .i64), .d (.int .i64), .d (.int .i64), .d (.int .i64), .d (.int .i64), .d (.int .i64), .d (.int .i64), .d (.sl userT)]], [(false, [.d .bool])]⟩
noncomputable def F_conf_Same (c0 c1 c2 c3 c4 c5 c6 : Int) (us : List UserD) (d0 d1 d2 d3 d4 d5 d6 : Int) (vs : List UserD) : Option Bool := cond (Nat.ble us.length 1000000) (sameC (seven c0 c1 c2 c3 c4 c5 c6) (seven d0 d1 d2 d3 d4 d5 d6) us vs) none
theorem F_conf_Same_sound {T : Tab} : SoundFn Tryz.prog T 31 F_conf_Same_sig ⟨F_conf_Same⟩ := by
 refine sound_of rfl fun F g O xs ls y tmf w args hT hw hlim hls happ hsz hr => ?_
 obtain ⟨(c0 : Int), _, rfl, h1⟩ := appF_inv_c happ
 obtain ⟨(c1 : Int), _, rfl, h2⟩ := appF_inv_c h1
 obtain ⟨(c2 : Int), _, rfl, h3⟩ := appF_inv_c h2
 obtain ⟨(c3 : Int), _, rfl, h4⟩ := appF_inv_c h3
 obtain ⟨(c4 : Int), _, rfl, h5⟩ := appF_inv_c h4
 obtain ⟨(c5 : Int), _, rfl, h6⟩ := appF_inv_c h5
 obtain ⟨(c6 : Int), _, rfl, h7⟩ := appF_inv_c h6
 obtain ⟨(us : List UserD), _, rfl, h8⟩ := appF_inv_c h7
 obtain ⟨(d0 : Int), _, rfl, h9⟩ := appF_inv_c h8
 obtain ⟨(d1 : Int), _, rfl, h10⟩ := appF_inv_c h9
 obtain ⟨(d2 : Int), _, rfl, h11⟩ := appF_inv_c h10
 obtain ⟨(d3 : Int), _, rfl, h12⟩ := appF_inv_c h11
 obtain ⟨(d4 : Int), _, rfl, h13⟩ := appF_inv_c h12
 obtain ⟨(d5 : Int), _, rfl, h14⟩ := appF_inv_c h13
 obtain ⟨(d6 : Int), _, rfl, h15⟩ := appF_inv_c h14
 obtain ⟨(vs : List UserD), _, rfl, h16⟩ := appF_inv_c (ts := []) h15
 obtain ⟨rfl, h17⟩ := appF_inv_n h16
 have hls' : some [Leaf.d (.int .i64) c0, .d (.int .i64) c1, .d (.int .i64) c2, .d (.int .i64) c3, .d (.int .i64) c4, .d (.int .i64) c5, .d (.int .i64) c6, .d (.sl userT) us, .d (.int .i64) d0, .d (.int .i64) d1, .d (.int .i64) d2, .d (.int .i64) d3, .d (.int .i64) d4, .d (.int .i64) d5, .d (.int .i64) d6, .d (.sl userT) vs] = some ls := hls
 injection hls' with hls'
 subst hls'
 have r0 : RelV F g w O (args.getD 0 undef) true [Leaf.d (.int .i64) c0, .d (.int .i64) c1, .d (.int .i64) c2, .d (.int .i64) c3, .d (.int .i64) c4, .d (.int .i64) c5, .d (.int .i64) c6, .d (.sl userT) us] := hr 0
 have r1 : RelV F g w O (args.getD 1 undef) true [Leaf.d (.int .i64) d0, .d (.int .i64) d1, .d (.int .i64) d2, .d (.int .i64) d3, .d (.int .i64) d4, .d (.int .i64) d5, .d (.int .i64) d6, .d (.sl userT) vs] := hr 1
 obtain ⟨_, ⟨_, _, rfl, ⟨rfl, _⟩, _, _, rfl, ⟨rfl, _⟩, _, _, rfl, ⟨rfl, _⟩, _, _, rfl, ⟨rfl, _⟩, _, _, rfl, ⟨rfl, _⟩, _, _, rfl, ⟨rfl, _⟩, _, _, rfl, ⟨rfl, _⟩, _, _, rfl, r8, rfl⟩, e0⟩ := r0
 obtain ⟨_, ⟨_, _, rfl, ⟨rfl, _⟩, _, _, rfl, ⟨rfl, _⟩, _, _, rfl, ⟨rfl, _⟩, _, _, rfl, ⟨rfl, _⟩, _, _, rfl, ⟨rfl, _⟩, _, _, rfl, ⟨rfl, _⟩, _, _, rfl, ⟨rfl, _⟩, _, _, rfl, s8, rfl⟩, e1⟩ := r1
 have r8 : RepD w g.C (.sl userT) us _ := r8
 have s8 : RepD w g.C (.sl userT) vs _ := s8
 have r9 : RepD w (C00 w) (.sl userT) us _ := r8.gw fun a u ha hc => ⟨ha, hlim _ _ hc⟩
 have s9 : RepD w (C00 w) (.sl userT) vs _ := s8.gw fun a u ha hc => ⟨ha, hlim _ _ hc⟩
 clear r8 s8
 obtain ⟨a, n, c, rfl, q⟩ := r9
 obtain ⟨b, m, d, rfl, q'⟩ := s9
 rw [args_2 hsz, show args.getD 0 undef = .agg (confV (seven c0 c1 c2 c3 c4 c5 c6) (.slice a n c)) from e0, show args.getD 1 undef = .agg (confV (seven d0 d1 d2 d3 d4 d5 d6) (.slice b m d)) from e1]
 have h : F_conf_Same c0 c1 c2 c3 c4 c5 c6 us d0 d1 d2 d3 d4 d5 d6 vs = some y := h17
 unfold F_conf_Same at h
 cases hb : Nat.ble us.length 1000000 with
 | false => rw [hb] at h; cases h
 | true =>
  rw [hb, cond_true] at h
  have hn : n <= 1000000 := by
   have := Nat.le_of_ble_eq_true hb
   have e : us.length = n := q.1
   omega
  refine (same_walk (w := w) ⟨a, n, c, rfl, q⟩ ⟨b, m, d, rfl, q'⟩ hn h).mono ?_
  rintro e w' ⟨rfl, hbel⟩
  refine ⟨[.bool y], _, g.C, fun _ => none, rfl, rfl, rfl, hbel, fun _ _ _ => Iff.rfl, fun b o h => Nat.lt_of_lt_of_le (hlim b o h) hbel.size, rfl, fun k b h => (by cases h), fun k k' b h => (by cases h), fun i hi => ?_⟩
  match i, hi with
  | 0, _ => exact rel_leaf.2 rfl
  | i + 1, hi => exact absurd hi (by show ¬ i + 1 < 1; omega)
end Go.Proofs.YtgfmfgombmpodaaGreatDoor
namespace Go.Proofs.YtgfmfgombmpodaaGreatDoor
set_option linter.unusedVariables false
def hexd (n : Nat) : Int := if n < 10 then 48 + (n : Int) else 87 + (n : Int)
def hexF : Nat -> Nat -> List Int
 | 0, _ => []
 | k + 1, n => if n < 16 then [hexd n] else hexF k (n / 16) ++ [hexd (n % 16)]
def hexI (n : Nat) : List Int := hexF 17 n
theorem hexF_more : ∀ (k n : Nat), n < 16 ^ k -> hexF (k + 1) n = hexF k n \/ k = 0
 | 0, _, _ => .inr rfl
 | k + 1, n, h => by
  left
  show (if n < 16 then [hexd n] else hexF (k + 1) (n / 16) ++ [hexd (n % 16)]) = (if n < 16 then [hexd n] else hexF k (n / 16) ++ [hexd (n % 16)])
  by_cases h16 : n < 16
  ·rw [if_pos h16, if_pos h16]
  ·rw [if_neg h16, if_neg h16]
   have : n / 16 < 16 ^ k := by rw [Nat.pow_succ] at h; omega
   rcases hexF_more k (n / 16) this with e | e
   ·rw [e]
   ·subst e; omega
theorem hexI_step {n : Nat} (h : ¬ n < 16) (hn : n < 65536) : hexI n = hexI (n / 16) ++ [hexd (n % 16)] := by
  have e : hexI n = hexF 16 (n / 16) ++ [hexd (n % 16)] := if_neg h
  rw [e]
  unfold hexI
  rcases hexF_more 16 (n / 16) (by have : (16 : Nat) ^ 16 = 18446744073709551616 := rfl
                                   omega) with e | e
  · rw [e]
  · cases e
theorem hexI_one {n : Nat} (h : n < 16) : hexI n = [hexd n] := if_pos h
theorem hexd_in {q : Nat} (h : q < 16) : (48 <= hexd q /\ hexd q <= 57) \/ (97 <= hexd q /\ hexd q <= 102) := by
 unfold hexd
 split <;> omega
theorem hex_len : ∀ (k n : Nat), n < 16 ^ (k + 1) -> n < 65536 -> 1 <= (hexI n).length /\ (hexI n).length <= k + 1
 | 0, n, h, _ => by
  have h : n < 16 := by simpa using h
  rw [hexI_one h]; simp
 | k + 1, n, h, h2 => by
  by_cases h16 : n < 16
  ·rw [hexI_one h16]; simp
  ·obtain ⟨a, b⟩ := hex_len k (n / 16) (by rw [Nat.pow_succ] at h; omega) (by omega)
   rw [hexI_step h16 h2, List.length_append]
   simp; omega
theorem hex_mem : ∀ (k n : Nat), n < 16 ^ (k + 1) -> n < 65536 -> ∀ c ∈ hexI n, (48 <= c /\ c <= 57) \/ (97 <= c /\ c <= 102)
 | 0, n, h, _ => by
  have h : n < 16 := by simpa using h
  rw [hexI_one h]
  intro c hc
  rw [List.mem_singleton.1 hc]
  exact hexd_in h
 | k + 1, n, h, h2 => by
  by_cases h16 : n < 16
  ·rw [hexI_one h16]
   intro c hc
   rw [List.mem_singleton.1 hc]
   exact hexd_in h16
  ·rw [hexI_step h16 h2]
   intro c hc
   rcases List.mem_append.1 hc with hc | hc
   ·exact hex_mem k (n / 16) (by rw [Nat.pow_succ] at h; omega) (by omega) c hc
   ·rw [List.mem_singleton.1 hc]
    exact hexd_in (by omega)
end Go.Proofs.YtgfmfgombmpodaaGreatDoor
namespace Go.Proofs.YtgfmfgombmpodaaGreatDoor
open Pv
set_option linter.unusedVariables false
def F_strconv_FormatInt_sig : Sig := ⟨[.v false [.d (.int .i64)], .v false [.d (.int .i64)]], [(false, [.d .str])]⟩
def F_strconv_FormatInt (n b : Int) : Option (List Int) := cond (b == 16 && decide (0 <= n) && decide (n < 65536)) (some (hexI n.toNat)) none
def F_bytes_Clone_sig : Sig := ⟨[.v false [.d (.sl (.int .u8))]], [(false, [.own 5 (.int .u8)])]⟩
def F_bytes_Clone (l : List Int) : Option (List Int) := cond (Nat.ble l.length 100000000) (some l) none
end Go.Proofs.YtgfmfgombmpodaaGreatDoor
namespace Go.Proofs.YtgfmfgombmpodaaGreatDoor
open Go.RowKit Go.Lib Pv
set_option linter.unusedVariables false

set_option maxHeartbeats 4000000 in
set_option maxRecDepth 1000000 in
theorem bcl_at (a : Addr) (n c : Nat) (l : List Int) (w : World) (hl : l.length = n) (hbig : n <= 140737488355328) (hc : ∀ (i : Nat) x, l[i]? = some x -> w.cell? (a.add i) = some (.int .u8 x)) :
  Calls Tryz.prog 52 #[.slice (some a) n c] w fun e w' => ∃ v', e = .returned v' /\ w'.ownsRow w.heap.size 5 1 v' n (l.map (Value.int .u8)) /\ Below w.heap.size w w' := by
 obtain ⟨i0, hi, hz0, hz1, hz2⟩ := info_parts infoU
 have q22 : ∀ (w : World) (a : Option Addr) (n c n' c' : Nat), (binOp .eql 32 (.slice a n c) (.slice none n' c')).run Tryz.prog w = .ok (.bool a.isNone) w := fun w a n c n' c' => Lib.run_eql_slice_nil w _ _ a n c n' c' Tryz.underlying32
 have A : Aside (∀ (i : Nat) x, l[i]? = some x -> w.cell? (a.add i) = some (.int .u8 x)) := hc
 clear hc
 go_enter Tryz.func52, Tryz.ntmps52
 go_wp2_with (at_builtin; refine wpList_append_own _ rfl _ _ 32 rfl w.heap.size 5 i0 (.int .u8 0) 1 1 Tryz.underlying32 hi hz0 hz1 hz2 rfl (by decide) _ _ _ rfl (World.ownsRow_made w #[] 0 (Nat.le_refl _) (Nat.zero_le _) rfl) a n c (l.map (Value.int .u8)) rfl ?qc1 ?qc2 ?qc3 ?qc4 ?qc5 ?qc6 ?_)
 case qc1 => simp; omega
 case qc2 =>
  intro j u hj
  rw [List.getElem?_map] at hj
  obtain ⟨x, hx, rfl⟩ := Option.map_eq_some_iff.1 hj
  exact Lib.cell?_alloc_some _ (A.out j x hx)
 case qc3 => intro u hu; obtain ⟨x, _, rfl⟩ := List.mem_map.1 hu; rfl
 case qc4 => unfold maxLen; omega
 case qc5 => omega
 case qc6 => simp
 intro v' w1 hown hgrow hnil
 go_wp2
 go_ret
 exact ⟨v', rfl, by simpa using hown, ((Below.refl _ w).alloc (Nat.le_refl _) _).grown hgrow (by simp) (by intro k hk; simp [Value.ownBlock] at hk; omega)⟩
set_option maxHeartbeats 4000000 in
theorem bcl_nil (n c : Nat) (w : World) : Calls Tryz.prog 52 #[.slice none n c] w fun e w' => e = .returned (.slice none 0 0) /\ w' = w := by
 have q22 : ∀ (w : World) (a : Option Addr) (n c n' c' : Nat), (binOp .eql 32 (.slice a n c) (.slice none n' c')).run Tryz.prog w = .ok (.bool a.isNone) w := fun w a n c n' c' => Lib.run_eql_slice_nil w _ _ a n c n' c' Tryz.underlying32
 go_enter Tryz.func52, Tryz.ntmps52
 go_wp2
 go_ret
 exact ⟨rfl, rfl⟩
theorem F_bytes_Clone_sound {T : Tab} : SoundFn Tryz.prog T 52 F_bytes_Clone_sig ⟨F_bytes_Clone⟩ := by
 refine sound_of rfl fun F g O xs ls y tmf w args hT hw hlim hls happ hsz hr => ?_
 obtain ⟨(l : List Int), xs', rfl, h2⟩ := appF_inv_c (ts := []) happ
 obtain ⟨rfl, h3⟩ := appF_inv_n h2
 have hls' : some [Leaf.d (.sl (.int .u8)) l] = some ls := hls
 injection hls' with hls'
 subst hls'
 obtain ⟨a, n, c, e0, e1, e2, e3, e4, e5, e6⟩ := rel_ints (hr 0)
 rw [args_1 hsz, e0]
 have h3 : cond (Nat.ble l.length 100000000) (some l) none = some y := h3
 cases hb : Nat.ble l.length 100000000 with
 | false => rw [hb] at h3; cases h3
 | true =>
  rw [hb] at h3
  have hy : l = y := by injection h3
  have hb := Nat.le_of_ble_eq_true hb
  subst hy
  cases a with
  | none =>
   have hl := e6 rfl
   refine (bcl_nil n c w).mono ?_
   rintro e w' ⟨rfl, rfl⟩
   exact own_row (l := l) hw hlim (Below.refl _ _) (by rw [hl]; exact World.ownsRow_nil _ _ _ _) e4 rfl rfl
  | some ad =>
   refine (bcl_at ad n c l w e1 (by omega) (e5 ad rfl)).mono ?_
   rintro e w' ⟨v, rfl, h1, h2⟩
   exact own_row (l := l) hw hlim h2 (by rw [e1]; exact h1) e4 rfl rfl
end Go.Proofs.YtgfmfgombmpodaaGreatDoor
namespace Go.Proofs.YtgfmfgombmpodaaGreatDoor
open Go.RowKit
namespace Pv
set_option linter.unusedVariables false
def headIs (r : Nat) : Code -> Bool
 | .region id _ _ => Nat.beq id r
 | .seq a _ => headIs r a
 | _ => false
def dropTo (r : Nat) : Code -> Option Code
 | .seq a b => match headIs r a with
  | true => some (.seq a b)
  | false => dropTo r b
 | _ => none
def midQ (E : Env) (fn : Func) (s : Sig) (x : Xt) (s' : PSt) : Option s.out.D := match x with | .normal | .ret => retF E.P fn.results.toList s s' | _ => none
noncomputable def pvMid (E : Env) (A : List (Nat × Ann)) (k0 : Nat) (fn : Func) (s : Sig) (c : Code) (st : PSt) : Option s.out.D :=
 match annot A c k0 with
 | some (ac, _) => match ac.good && ac.dsts.all (fun d => Nat.blt d fn.ntmps) && ((List.range s.ps.length).all fun k => !(isM s.ps k) || !(hasN ac.dsts k)) && Nat.beq fn.results.size s.rs.length with
  | true => pv E ac (midQ E fn s) st
  | false => none
 | none => none
noncomputable def pvMidF (E : Env) (A : List (Nat × Ann)) (k0 r : Nat) (fn : Func) (s : Sig) (st : PSt) : Option s.out.D := match fn.body with
 | some b => match dropTo r b with | some c => pvMid E A k0 fn s c st | none => none
 | none => none
theorem mid_sound {T : Tab} {E : Env} (hE : E.ok T) {A : List (Nat × Ann)} {k0 r : Nat} {fn : Func} {s : Sig} {b c : Code} {F : Fr} {g : Gh} {st : PSt} {a : Act} {w : World} {y : s.out.D} (hb : fn.body = some b) (hc : dropTo r b = some c) (hT : TabF T F) (hn : F.n = fn.ntmps) (hA : AR F g st a w) (hv : pvMidF E A k0 r fn s st = some y) :
    c.wp E.P (fun e a' w' => (e = .normal \/ e = .ret) /\ a'.defers = [] /\ ∃ us g' st', (results fn a'.tmps).run E.P w' = .ok (retV us) w' /\ us.length = s.rs.length /\ exitSt s y = some st' /\ MRel F g' st' (fun i => us.getD i undef) w' /\ ∀ k, isM s.ps k = true -> g'.ρ k = g.ρ k) a w := by
  unfold pvMidF at hv
  rw [hb] at hv
  dsimp only at hv
  rw [hc] at hv
  dsimp only at hv
  unfold pvMid at hv
  split at hv
  case h_2 => cases hv
  rename_i ac k hac
  split at hv
  case h_2 => cases hv
  rename_i hgd
  simp only [Bool.and_eq_true] at hgd
  obtain ⟨⟨⟨hg1, hg2⟩, hg5⟩, hg6⟩ := hgd
  have hdst : ∀ d ∈ ac.dsts, d < F.n := fun d hd => by
    have := List.all_eq_true.1 hg2 d hd
    rw [Nat.blt_eq] at this
    omega
  have he := annot_erase c k0 ac k hac
  have hs := pv_sound ⟨T, hE, hT⟩ ac (by rw [annot_hands c k0 ac k hac]; intro p hp; cases hp) _ st y g _ w hg1 hdst hA hv
  rw [he] at hs
  have fin : ∀ {x a' w' g' st'}, retF E.P fn.results.toList s st' = some y -> AR F g' st' a' w' -> LftX x (· ∈ ac.dsts) (· ∈ ac.ids) g a w g' a' w' ->
      a'.defers = [] /\ ∃ us g' st', (results fn a'.tmps).run E.P w' = .ok (retV us) w' /\ us.length = s.rs.length /\ exitSt s y = some st' /\ MRel F g' st' (fun i => us.getD i undef) w' /\ ∀ k, isM s.ps k = true -> g'.ρ k = g.ρ k := fun {x a' w' g' st'} hr hA hl => by
    obtain ⟨us, g2, stX, r1, r2, r3, r4, r5, r6⟩ := exit_relF hA hr
    refine ⟨hA.defers, us, g2, stX, results_run r2 r3, r1, r4, r5, fun k hk => ?_⟩
    rw [r6]
    refine hl.ρ k fun hm => ?_
    have hlt : k < s.ps.length := by
      obtain ⟨ts, hts⟩ := isM_iff.1 hk
      exact (List.getElem?_eq_some_iff.1 hts).1
    have := List.all_eq_true.1 hg5 k (List.mem_range.2 hlt)
    rw [hk, hasN_iff.2 hm] at this
    cases this
  refine Code.wp_mono (fun e a' w' hp => ?_) hs
  obtain ⟨x, st', g', rfl, hQ, hr, hl⟩ := hp
  cases x with
  | exit i => cases hQ
  | normal => exact ⟨.inl rfl, fin hQ hr hl⟩
  | ret => exact ⟨.inr rfl, fin hQ hr hl⟩
  | goto i => cases hQ
end Pv
end Go.Proofs.YtgfmfgombmpodaaGreatDoor
namespace Go.Proofs.YtgfmfgombmpodaaGreatDoor
open Pv
set_option linter.unusedVariables false
noncomputable def F_tally_count (q1 : Nat) : Option (Int × Bool) :=
 cond (!((fgt .f64 q1 0 || feq .f64 q1 0) && (flt .f64 q1 4832362400168542208 || feq .f64 q1 4832362400168542208)))
 (some (0, false))
 ((ftoI .f64 .i64 q1).bind fun i2 =>
 some (i2, (feq .f64 (foI .f64 i2) q1)))
def F_tally_count_sig : Sig := ⟨[.v false [.d (.flo .f64)]], [(false, [.d (.int .i64)]), (false, [.d .bool])]⟩
def F_tally_count_ann : List (Nat × Ann) := []
noncomputable def F_tally_count_env : Env := ⟨Tryz.prog, [], []⟩
theorem F_tally_count_text : pvFn F_tally_count_env F_tally_count_ann Tryz.f146 F_tally_count_sig = F_tally_count := by kernel_rfl
noncomputable def F_tally_parts (z1 : (Nat × Nat)) : Option (Int × Int × Bool) :=
 (F_tally_count z1.1).bind fun x2 =>
 (F_tally_count z1.2).bind fun x3 =>
 cond ((!x2.2) || (!x3.2))
 (some (0, 0, false))
 (some (x2.1, x3.1, true))
def F_tally_parts_sig : Sig := ⟨[.v false [.d (.cpx .f64)]], [(false, [.d (.int .i64)]), (false, [.d (.int .i64)]), (false, [.d .bool])]⟩
def F_tally_parts_ann : List (Nat × Ann) := []
noncomputable def F_tally_parts_env : Env := ⟨Tryz.prog, [(146, ⟨F_tally_count_sig, ⟨F_tally_count⟩⟩)], []⟩
theorem F_tally_parts_text : pvFn F_tally_parts_env F_tally_parts_ann Tryz.f111 F_tally_parts_sig = F_tally_parts := by kernel_rfl
noncomputable def F_tally_Up (z1 : (Nat × Nat)) : Option (Int) :=
 (F_tally_parts z1).bind fun x2 =>
 some x2.1
def F_tally_Up_sig : Sig := ⟨[.v false [.d (.cpx .f64)]], [(false, [.d (.int .i64)])]⟩
def F_tally_Up_ann : List (Nat × Ann) := []
noncomputable def F_tally_Up_env : Env := ⟨Tryz.prog, [(111, ⟨F_tally_parts_sig, ⟨F_tally_parts⟩⟩)], []⟩
theorem F_tally_Up_text : pvFn F_tally_Up_env F_tally_Up_ann Tryz.f70 F_tally_Up_sig = F_tally_Up := by kernel_rfl
noncomputable def F_tally_Down (z1 : (Nat × Nat)) : Option (Int) :=
 (F_tally_parts z1).bind fun x2 =>
 some x2.2.1
def F_tally_Down_sig : Sig := ⟨[.v false [.d (.cpx .f64)]], [(false, [.d (.int .i64)])]⟩
def F_tally_Down_ann : List (Nat × Ann) := []
noncomputable def F_tally_Down_env : Env := ⟨Tryz.prog, [(111, ⟨F_tally_parts_sig, ⟨F_tally_parts⟩⟩)], []⟩
theorem F_tally_Down_text : pvFn F_tally_Down_env F_tally_Down_ann Tryz.f71 F_tally_Down_sig = F_tally_Down := by kernel_rfl
noncomputable def F_addr_Print_L7 (s1 : List Int) (s : List (List Int) × Int) : Option ((((List Int) ⊕ (Unit)) ⊕ (List (List Int))) ⊕ (List (List Int) × Int)) :=
 let l2 := s.1; let i3 := s.2
 cond (decide (i3 < 4))
 ((getI s1 i3).bind fun i4 =>
 (F_strconv_Itoa (IntKind.i64.wrap i4)).bind fun s5 =>
 chk (decide ((l2.length + ([s5] : List (List Int)).length) * 16 <= 140737488355328) && decide (l2.length + ([s5] : List (List Int)).length <= maxLen))
 (some (.inr ((l2 ++ ([s5] : List (List Int))), (IntKind.i64.wrap (i3 + 1))))))
 (some (.inl (.inr l2)))
noncomputable def F_addr_Print_J5 (s : List (List Int)) : Option ((List Int) ⊕ (Unit)) :=
 let l6 := s
 (F_strings_Join l6 ([46] : List Int)).bind fun s7 =>
 some (.inl s7)
noncomputable def F_addr_Print_L16 (s1 : List Int) (s : List (List Int) × Int) : Option ((((List Int) ⊕ (Unit)) ⊕ (List (List Int))) ⊕ (List (List Int) × Int)) :=
 let l8 := s.1; let i9 := s.2
 cond (decide (i9 < 8))
 ((getI s1 (IntKind.i64.wrap (2 * i9))).bind fun i10 =>
 (getI s1 (IntKind.i64.wrap ((IntKind.i64.wrap (2 * i9)) + 1))).bind fun i11 =>
 (F_strconv_FormatInt (bits .or .i64 (IntKind.i64.wrap ((IntKind.i64.wrap i10) * 2 ^ 8)) (IntKind.i64.wrap i11)) 16).bind fun s12 =>
 chk (decide ((l8.length + ([s12] : List (List Int)).length) * 16 <= 140737488355328) && decide (l8.length + ([s12] : List (List Int)).length <= maxLen))
 (some (.inr ((l8 ++ ([s12] : List (List Int))), (IntKind.i64.wrap (i9 + 1))))))
 (some (.inl (.inr l8)))
noncomputable def F_addr_Print_J14 (s : List (List Int)) : Option ((List Int) ⊕ (Unit)) :=
 let l13 := s
 (F_strings_Join l13 ([58] : List Int)).bind fun s14 =>
 some (.inl s14)
noncomputable def F_addr_Print_J2 (s : Unit) : Option (List Int) :=
 some ([] : List Int)
noncomputable def F_addr_Print (s1 : List Int) : Option (List Int) :=
 joinC (S := Unit) (R := List Int)
 (cond ((s1.length : Int) == 4)
 (joinC (S := List (List Int)) (R := (List Int) ⊕ (Unit))
 (loopC (S := List (List Int) × Int) (R := ((List Int) ⊕ (Unit)) ⊕ (List (List Int))) (F_addr_Print_L7 s1) (([] : List (List Int)), 0))
 (F_addr_Print_J5))
 (cond ((s1.length : Int) == 16)
 (joinC (S := List (List Int)) (R := (List Int) ⊕ (Unit))
 (loopC (S := List (List Int) × Int) (R := ((List Int) ⊕ (Unit)) ⊕ (List (List Int))) (F_addr_Print_L16 s1) (([] : List (List Int)), 0))
 (F_addr_Print_J14))
 (some (.inr ()))))
 (F_addr_Print_J2)
def F_addr_Print_sig : Sig := ⟨[.v false [.d .str]], [(false, [.d .str])]⟩
def F_addr_Print_ann : List (Nat × Ann) := [(2, ⟨3, [], [], (List.range' 2 47), []⟩), (5, ⟨6, [(3, false, [.own 9 .str])], [], ([4] ++ List.range' 10 12), []⟩), (7, ⟨8, [(3, false, [.own 9 .str]), (10, false, [.d (.int .i64)])], [], ([4] ++ List.range' 11 11), []⟩), (14, ⟨15, [(3, false, [.own 9 .str])], [], ([5] ++ List.range' 26 21), []⟩), (16, ⟨17, [(3, false, [.own 9 .str]), (26, false, [.d (.int .i64)])], [], ([5] ++ List.range' 27 20), []⟩)]
noncomputable def F_addr_Print_env : Env := ⟨Tryz.prog, [(67, ⟨F_strconv_Itoa_sig, ⟨F_strconv_Itoa⟩⟩), (68, ⟨F_strings_Join_sig, ⟨F_strings_Join⟩⟩), (184, ⟨F_strconv_FormatInt_sig, ⟨F_strconv_FormatInt⟩⟩)], []⟩
theorem F_addr_Print_text : pvFn F_addr_Print_env F_addr_Print_ann Tryz.f147 F_addr_Print_sig = F_addr_Print := by kernel_rfl
noncomputable def F_addr_PrintNet (s1 : List Int) (i2 : Int) : Option (List Int) :=
 (F_addr_Print s1).bind fun s3 =>
 chk (Nat.ble (s3.length + ([47] : List Int).length) maxLen)
 ((F_strconv_Itoa i2).bind fun s4 =>
 chk (Nat.ble ((s3 ++ ([47] : List Int)).length + s4.length) maxLen)
 (some ((s3 ++ ([47] : List Int)) ++ s4)))
def F_addr_PrintNet_sig : Sig := ⟨[.v true [.d .str, .d (.int .i64)]], [(false, [.d .str])]⟩
def F_addr_PrintNet_ann : List (Nat × Ann) := []
noncomputable def F_addr_PrintNet_env : Env := ⟨Tryz.prog, [(67, ⟨F_strconv_Itoa_sig, ⟨F_strconv_Itoa⟩⟩), (147, ⟨F_addr_Print_sig, ⟨F_addr_Print⟩⟩)], []⟩
theorem F_addr_PrintNet_text : pvFn F_addr_PrintNet_env F_addr_PrintNet_ann Tryz.f112 F_addr_PrintNet_sig = F_addr_PrintNet := by kernel_rfl
noncomputable def F_conf_Rule_line (b1 : Bool) (i2 : Int) (s3 : List Int) (s4 : List Int) (i5 : Int) (i6 : Int) (i7 : Int) (s8 : List Int) : Option (List Int) :=
 (F_strconv_Itoa i6).bind fun s9 =>
 cond b1
 (cond (i2 == 0)
 (cond (i6 == 1)
 (cond (i7 == 65535)
 ((F_strings_Join ([([97, 108, 108, 111, 119] : List Int), s8, ([42] : List Int), ([42] : List Int)] : List (List Int)) ([32] : List Int)).bind fun s10 =>
 some s10)
 (cond (i6 != i7)
 ((F_strconv_Itoa i7).bind fun s11 =>
 chk (Nat.ble (([45] : List Int).length + s11.length) maxLen)
 (chk (Nat.ble (s9.length + (([45] : List Int) ++ s11).length) maxLen)
 ((F_strings_Join ([([97, 108, 108, 111, 119] : List Int), s8, ([42] : List Int), (s9 ++ (([45] : List Int) ++ s11))] : List (List Int)) ([32] : List Int)).bind fun s12 =>
 some s12)))
 ((F_strings_Join ([([97, 108, 108, 111, 119] : List Int), s8, ([42] : List Int), s9] : List (List Int)) ([32] : List Int)).bind fun s13 =>
 some s13)))
 (cond (i6 != i7)
 ((F_strconv_Itoa i7).bind fun s14 =>
 chk (Nat.ble (([45] : List Int).length + s14.length) maxLen)
 (chk (Nat.ble (s9.length + (([45] : List Int) ++ s14).length) maxLen)
 ((F_strings_Join ([([97, 108, 108, 111, 119] : List Int), s8, ([42] : List Int), (s9 ++ (([45] : List Int) ++ s14))] : List (List Int)) ([32] : List Int)).bind fun s15 =>
 some s15)))
 ((F_strings_Join ([([97, 108, 108, 111, 119] : List Int), s8, ([42] : List Int), s9] : List (List Int)) ([32] : List Int)).bind fun s16 =>
 some s16)))
 (cond (i2 == 3)
 ((F_addr_PrintNet s4 i5).bind fun s17 =>
 cond (i6 == 1)
 (cond (i7 == 65535)
 ((F_strings_Join ([([97, 108, 108, 111, 119] : List Int), s8, s17, ([42] : List Int)] : List (List Int)) ([32] : List Int)).bind fun s18 =>
 some s18)
 (cond (i6 != i7)
 ((F_strconv_Itoa i7).bind fun s19 =>
 chk (Nat.ble (([45] : List Int).length + s19.length) maxLen)
 (chk (Nat.ble (s9.length + (([45] : List Int) ++ s19).length) maxLen)
 ((F_strings_Join ([([97, 108, 108, 111, 119] : List Int), s8, s17, (s9 ++ (([45] : List Int) ++ s19))] : List (List Int)) ([32] : List Int)).bind fun s20 =>
 some s20)))
 ((F_strings_Join ([([97, 108, 108, 111, 119] : List Int), s8, s17, s9] : List (List Int)) ([32] : List Int)).bind fun s21 =>
 some s21)))
 (cond (i6 != i7)
 ((F_strconv_Itoa i7).bind fun s22 =>
 chk (Nat.ble (([45] : List Int).length + s22.length) maxLen)
 (chk (Nat.ble (s9.length + (([45] : List Int) ++ s22).length) maxLen)
 ((F_strings_Join ([([97, 108, 108, 111, 119] : List Int), s8, s17, (s9 ++ (([45] : List Int) ++ s22))] : List (List Int)) ([32] : List Int)).bind fun s23 =>
 some s23)))
 ((F_strings_Join ([([97, 108, 108, 111, 119] : List Int), s8, s17, s9] : List (List Int)) ([32] : List Int)).bind fun s24 =>
 some s24)))
 (cond (i6 == 1)
 (cond (i7 == 65535)
 ((F_strings_Join ([([97, 108, 108, 111, 119] : List Int), s8, s3, ([42] : List Int)] : List (List Int)) ([32] : List Int)).bind fun s25 =>
 some s25)
 (cond (i6 != i7)
 ((F_strconv_Itoa i7).bind fun s26 =>
 chk (Nat.ble (([45] : List Int).length + s26.length) maxLen)
 (chk (Nat.ble (s9.length + (([45] : List Int) ++ s26).length) maxLen)
 ((F_strings_Join ([([97, 108, 108, 111, 119] : List Int), s8, s3, (s9 ++ (([45] : List Int) ++ s26))] : List (List Int)) ([32] : List Int)).bind fun s27 =>
 some s27)))
 ((F_strings_Join ([([97, 108, 108, 111, 119] : List Int), s8, s3, s9] : List (List Int)) ([32] : List Int)).bind fun s28 =>
 some s28)))
 (cond (i6 != i7)
 ((F_strconv_Itoa i7).bind fun s29 =>
 chk (Nat.ble (([45] : List Int).length + s29.length) maxLen)
 (chk (Nat.ble (s9.length + (([45] : List Int) ++ s29).length) maxLen)
 ((F_strings_Join ([([97, 108, 108, 111, 119] : List Int), s8, s3, (s9 ++ (([45] : List Int) ++ s29))] : List (List Int)) ([32] : List Int)).bind fun s30 =>
 some s30)))
 ((F_strings_Join ([([97, 108, 108, 111, 119] : List Int), s8, s3, s9] : List (List Int)) ([32] : List Int)).bind fun s31 =>
 some s31)))))
 (cond (i2 == 0)
 (cond (i6 == 1)
 (cond (i7 == 65535)
 ((F_strings_Join ([([100, 101, 110, 121] : List Int), s8, ([42] : List Int), ([42] : List Int)] : List (List Int)) ([32] : List Int)).bind fun s32 =>
 some s32)
 (cond (i6 != i7)
 ((F_strconv_Itoa i7).bind fun s33 =>
 chk (Nat.ble (([45] : List Int).length + s33.length) maxLen)
 (chk (Nat.ble (s9.length + (([45] : List Int) ++ s33).length) maxLen)
 ((F_strings_Join ([([100, 101, 110, 121] : List Int), s8, ([42] : List Int), (s9 ++ (([45] : List Int) ++ s33))] : List (List Int)) ([32] : List Int)).bind fun s34 =>
 some s34)))
 ((F_strings_Join ([([100, 101, 110, 121] : List Int), s8, ([42] : List Int), s9] : List (List Int)) ([32] : List Int)).bind fun s35 =>
 some s35)))
 (cond (i6 != i7)
 ((F_strconv_Itoa i7).bind fun s36 =>
 chk (Nat.ble (([45] : List Int).length + s36.length) maxLen)
 (chk (Nat.ble (s9.length + (([45] : List Int) ++ s36).length) maxLen)
 ((F_strings_Join ([([100, 101, 110, 121] : List Int), s8, ([42] : List Int), (s9 ++ (([45] : List Int) ++ s36))] : List (List Int)) ([32] : List Int)).bind fun s37 =>
 some s37)))
 ((F_strings_Join ([([100, 101, 110, 121] : List Int), s8, ([42] : List Int), s9] : List (List Int)) ([32] : List Int)).bind fun s38 =>
 some s38)))
 (cond (i2 == 3)
 ((F_addr_PrintNet s4 i5).bind fun s39 =>
 cond (i6 == 1)
 (cond (i7 == 65535)
 ((F_strings_Join ([([100, 101, 110, 121] : List Int), s8, s39, ([42] : List Int)] : List (List Int)) ([32] : List Int)).bind fun s40 =>
 some s40)
 (cond (i6 != i7)
 ((F_strconv_Itoa i7).bind fun s41 =>
 chk (Nat.ble (([45] : List Int).length + s41.length) maxLen)
 (chk (Nat.ble (s9.length + (([45] : List Int) ++ s41).length) maxLen)
 ((F_strings_Join ([([100, 101, 110, 121] : List Int), s8, s39, (s9 ++ (([45] : List Int) ++ s41))] : List (List Int)) ([32] : List Int)).bind fun s42 =>
 some s42)))
 ((F_strings_Join ([([100, 101, 110, 121] : List Int), s8, s39, s9] : List (List Int)) ([32] : List Int)).bind fun s43 =>
 some s43)))
 (cond (i6 != i7)
 ((F_strconv_Itoa i7).bind fun s44 =>
 chk (Nat.ble (([45] : List Int).length + s44.length) maxLen)
 (chk (Nat.ble (s9.length + (([45] : List Int) ++ s44).length) maxLen)
 ((F_strings_Join ([([100, 101, 110, 121] : List Int), s8, s39, (s9 ++ (([45] : List Int) ++ s44))] : List (List Int)) ([32] : List Int)).bind fun s45 =>
 some s45)))
 ((F_strings_Join ([([100, 101, 110, 121] : List Int), s8, s39, s9] : List (List Int)) ([32] : List Int)).bind fun s46 =>
 some s46)))
 (cond (i6 == 1)
 (cond (i7 == 65535)
 ((F_strings_Join ([([100, 101, 110, 121] : List Int), s8, s3, ([42] : List Int)] : List (List Int)) ([32] : List Int)).bind fun s47 =>
 some s47)
 (cond (i6 != i7)
 ((F_strconv_Itoa i7).bind fun s48 =>
 chk (Nat.ble (([45] : List Int).length + s48.length) maxLen)
 (chk (Nat.ble (s9.length + (([45] : List Int) ++ s48).length) maxLen)
 ((F_strings_Join ([([100, 101, 110, 121] : List Int), s8, s3, (s9 ++ (([45] : List Int) ++ s48))] : List (List Int)) ([32] : List Int)).bind fun s49 =>
 some s49)))
 ((F_strings_Join ([([100, 101, 110, 121] : List Int), s8, s3, s9] : List (List Int)) ([32] : List Int)).bind fun s50 =>
 some s50)))
 (cond (i6 != i7)
 ((F_strconv_Itoa i7).bind fun s51 =>
 chk (Nat.ble (([45] : List Int).length + s51.length) maxLen)
 (chk (Nat.ble (s9.length + (([45] : List Int) ++ s51).length) maxLen)
 ((F_strings_Join ([([100, 101, 110, 121] : List Int), s8, s3, (s9 ++ (([45] : List Int) ++ s51))] : List (List Int)) ([32] : List Int)).bind fun s52 =>
 some s52)))
 ((F_strings_Join ([([100, 101, 110, 121] : List Int), s8, s3, s9] : List (List Int)) ([32] : List Int)).bind fun s53 =>
 some s53)))))
def F_conf_Rule_line_sig : Sig := ⟨[.v true [.d .bool, .d (.int .i64), .d .str, .d .str, .d (.int .i64), .d (.int .i64), .d (.int .i64)], .v false [.d .str]], [(false, [.d .str])]⟩
def F_conf_Rule_line_ann : List (Nat × Ann) := []
noncomputable def F_conf_Rule_line_env : Env := ⟨Tryz.prog, [(67, ⟨F_strconv_Itoa_sig, ⟨F_strconv_Itoa⟩⟩), (68, ⟨F_strings_Join_sig, ⟨F_strings_Join⟩⟩), (112, ⟨F_addr_PrintNet_sig, ⟨F_addr_PrintNet⟩⟩)], []⟩
theorem F_conf_Rule_line_text : pvFn F_conf_Rule_line_env F_conf_Rule_line_ann Tryz.f72 F_conf_Rule_line_sig = F_conf_Rule_line := by kernel_rfl
noncomputable def F_conf_Print_L18 (x12 : UserD) (s : List (List Int) × Int) : Option (((((List (List Int)) ⊕ (List (List Int))) ⊕ (List (List Int) × Int)) ⊕ (List (List Int))) ⊕ (List (List Int) × Int)) :=
 let l22 := s.1; let i23 := s.2
 cond (decide (i23 < (x12.2.2.2.2.length : Int)))
 ((getI x12.2.2.2.2 i23).bind fun x24 =>
 (F_conf_Rule_line x24.1 x24.2.1 x24.2.2.1 x24.2.2.2.1.1 x24.2.2.2.1.2 x24.2.2.2.2.1 x24.2.2.2.2.2 x12.1).bind fun s25 =>
 chk (decide ((l22.length + ([s25] : List (List Int)).length) * 16 <= 140737488355328) && decide (l22.length + ([s25] : List (List Int)).length <= maxLen))
 (some (.inr ((l22 ++ ([s25] : List (List Int))), (IntKind.i64.wrap (i23 + 1))))))
 (some (.inl (.inr l22)))
noncomputable def F_conf_Print_J14 (i11 : Int) (s : List (List Int)) : Option (((List (List Int)) ⊕ (List (List Int))) ⊕ (List (List Int) × Int)) :=
 let l26 := s
 some (.inr (l26, (IntKind.i64.wrap (i11 + 1))))
noncomputable def F_conf_Print_L11 (l8 : List UserD) (s : List (List Int) × Int) : Option (((List (List Int)) ⊕ (List (List Int))) ⊕ (List (List Int) × Int)) :=
 let l10 := s.1; let i11 := s.2
 cond (decide (i11 < (l8.length : Int)))
 (joinC (S := List (List Int)) (R := ((List (List Int)) ⊕ (List (List Int))) ⊕ (List (List Int) × Int))
 ((getI l8 i11).bind fun x12 =>
 (F_conf_Hex x12.2.1.1).bind fun s13 =>
 (F_conf_Hex x12.2.1.2).bind fun s14 =>
 (F_strconv_Itoa x12.2.2.1).bind fun s15 =>
 (F_tally_Up x12.2.2.2.1).bind fun i17 =>
 (F_strconv_Itoa i17).bind fun s18 =>
 (F_tally_Down x12.2.2.2.1).bind fun i19 =>
 (F_strconv_Itoa i19).bind fun s20 =>
 (F_strings_Join ([([117, 115, 101, 114] : List Int), x12.1, s13, s14, s15, s18, s20] : List (List Int)) ([32] : List Int)).bind fun s21 =>
 chk (decide ((l10.length + ([s21] : List (List Int)).length) * 16 <= 140737488355328) && decide (l10.length + ([s21] : List (List Int)).length <= maxLen))
 (loopC (S := List (List Int) × Int) (R := (((List (List Int)) ⊕ (List (List Int))) ⊕ (List (List Int) × Int)) ⊕ (List (List Int))) (F_conf_Print_L18 x12) ((l10 ++ ([s21] : List (List Int))), 0)))
 (F_conf_Print_J14 i11))
 (some (.inl (.inr l10)))
noncomputable def F_conf_Print_J9 (s : List (List Int)) : Option (List (List Int)) :=
 let l27 := s
 some l27
noncomputable def F_conf_Print_mid (i1 : Int) (i2 : Int) (i3 : Int) (i4 : Int) (i5 : Int) (i6 : Int) (i7 : Int) (l8 : List UserD) (l9 : List (List Int)) : Option (List (List Int)) :=
 joinC (S := List (List Int)) (R := List (List Int))
 (loopC (S := List (List Int) × Int) (R := (List (List Int)) ⊕ (List (List Int))) (F_conf_Print_L11 l8) (l9, 0))
 (F_conf_Print_J9)
def F_conf_Print_sig : Sig := ⟨[.v true [.d (.int .i64), .d (.int .i64), .d (.int .i64), .d (.int .i64), .d (.int .i64), .d (.int .i64), .d (.int .i64), .d (.sl (.pr .str (.pr (.pr (.sl (.int .u8)) (.sl (.int .u8))) (.pr (.int .i64) (.pr (.cpx .f64) (.sl (.pr .bool (.pr (.int .i64) (.pr .str (.pr (.pr .str (.int .i64)) (.pr (.int .i64) (.int .i64))))))))))))]], [(false, [.own 9 .str])]⟩
def F_conf_Print_ann : List (Nat × Ann) := [(9, ⟨10, [(3, false, [.own 9 .str])], [], ([7, 9] ++ List.range' 30 49), []⟩), (11, ⟨12, [(3, false, [.own 9 .str]), (33, false, [.d (.int .i64)])], [], ([7, 9] ++ List.range' 34 45), []⟩), (14, ⟨15, [(3, false, [.own 9 .str])], [], ([7, 9] ++ List.range' 35 43), []⟩), (18, ⟨19, [(3, false, [.own 9 .str]), (66, false, [.d (.int .i64)])], [], ([9] ++ List.range' 67 11), [7]⟩)]
noncomputable def F_conf_Print_env : Env := ⟨Tryz.prog, [(67, ⟨F_strconv_Itoa_sig, ⟨F_strconv_Itoa⟩⟩), (68, ⟨F_strings_Join_sig, ⟨F_strings_Join⟩⟩), (69, ⟨F_conf_Hex_sig, ⟨F_conf_Hex⟩⟩), (70, ⟨F_tally_Up_sig, ⟨F_tally_Up⟩⟩), (71, ⟨F_tally_Down_sig, ⟨F_tally_Down⟩⟩), (72, ⟨F_conf_Rule_line_sig, ⟨F_conf_Rule_line⟩⟩)], []⟩
def F_conf_Print_st (i1 : Int) (i2 : Int) (i3 : Int) (i4 : Int) (i5 : Int) (i6 : Int) (i7 : Int) (l8 : List UserD) (l9 : List (List Int)) : PSt := ⟨fun i => match i with | 1 => .loc 1 0 | 3 => .w false [.own (.hd 0 0) 9 .str l9] | _ => .dead, fun k => match k with | 1 => some (0, [.d (.int .i64) i1, .d (.int .i64) i2, .d (.int .i64) i3, .d (.int .i64) i4, .d (.int .i64) i5, .d (.int .i64) i6, .d (.int .i64) i7, .d (.sl (.pr .str (.pr (.pr (.sl (.int .u8)) (.sl (.int .u8))) (.pr (.int .i64) (.pr (.cpx .f64) (.sl (.pr .bool (.pr (.int .i64) (.pr .str (.pr (.pr .str (.int .i64)) (.pr (.int .i64) (.int .i64)))))))))))) l8]) | _ => none, fun t => hasT [.zero, .hd 0 0] t, [], [], []⟩
theorem F_conf_Print_text : (fun (i1 : Int) (i2 : Int) (i3 : Int) (i4 : Int) (i5 : Int) (i6 : Int) (i7 : Int) (l8 : List UserD) (l9 : List (List Int)) => pvMidF F_conf_Print_env F_conf_Print_ann 9 7 Tryz.f37 F_conf_Print_sig (F_conf_Print_st i1 i2 i3 i4 i5 i6 i7 l8 l9)) = F_conf_Print_mid := by kernel_rfl
noncomputable def F_conf_copied (s1 : List Int) (l2 : List Int) (l3 : List Int) (i4 : Int) (z5 : (Nat × Nat)) (l6 : List RuleD) : Option (List Int × List Int × List Int × Int × (Nat × Nat) × List RuleD) :=
 (F_bytes_Clone l2).bind fun l7 =>
 (F_bytes_Clone l3).bind fun l8 =>
 (F_slices_Clone_conf_Rule_conf_Rule l6).bind fun l9 =>
 some (s1, l7, l8, i4, z5, l9)
def F_conf_copied_sig : Sig := ⟨[.v true [.d .str, .d (.sl (.int .u8)), .d (.sl (.int .u8)), .d (.int .i64), .d (.cpx .f64), .d (.sl (.pr .bool (.pr (.int .i64) (.pr .str (.pr (.pr .str (.int .i64)) (.pr (.int .i64) (.int .i64)))))))]], [(true, [.d .str, .own 5 (.int .u8), .own 5 (.int .u8), .d (.int .i64), .d (.cpx .f64), .own 68 (.pr .bool (.pr (.int .i64) (.pr .str (.pr (.pr .str (.int .i64)) (.pr (.int .i64) (.int .i64))))))])]⟩
def F_conf_copied_ann : List (Nat × Ann) := []
noncomputable def F_conf_copied_env : Env := ⟨Tryz.prog, [(52, ⟨F_bytes_Clone_sig, ⟨F_bytes_Clone⟩⟩), (107, ⟨F_slices_Clone_conf_Rule_conf_Rule_sig, ⟨F_slices_Clone_conf_Rule_conf_Rule⟩⟩)], []⟩
theorem F_conf_copied_text : pvFn F_conf_copied_env F_conf_copied_ann Tryz.f66 F_conf_copied_sig = F_conf_copied := by kernel_rfl
noncomputable def F_conf_Find_L3 (l8 : List UserD) (s9 : List Int) (s : Int × List Int × List Int × List Int × Int × (Nat × Nat) × List RuleD) : Option (((List Int × List Int × List Int × Int × (Nat × Nat) × List RuleD × Bool) ⊕ (List Int × List Int × List Int × Int × (Nat × Nat) × List RuleD)) ⊕ (Int × List Int × List Int × List Int × Int × (Nat × Nat) × List RuleD)) :=
 let i10 := s.1; let s11 := s.2.1; let l12 := s.2.2.1; let l13 := s.2.2.2.1; let i14 := s.2.2.2.2.1; let z15 := s.2.2.2.2.2.1; let l16 := s.2.2.2.2.2.2
 cond (decide (i10 < (l8.length : Int)))
 ((getI l8 i10).bind fun x17 =>
 cond (x17.1 == s9)
 ((F_conf_copied x17.1 x17.2.1.1 x17.2.1.2 x17.2.2.1 x17.2.2.2.1 x17.2.2.2.2).bind fun x18 =>
 some (.inl (.inl (x18.1, x18.2.1, x18.2.2.1, x18.2.2.2.1, x18.2.2.2.2.1, x18.2.2.2.2.2, true))))
 (some (.inr ((IntKind.i64.wrap (i10 + 1)), s11, l12, l13, i14, z15, l16))))
 (some (.inl (.inr (s11, l12, l13, i14, z15, l16))))
noncomputable def F_conf_Find_J1 (s : List Int × List Int × List Int × Int × (Nat × Nat) × List RuleD) : Option (List Int × List Int × List Int × Int × (Nat × Nat) × List RuleD × Bool) :=
 let s19 := s.1; let l20 := s.2.1; let l21 := s.2.2.1; let i22 := s.2.2.2.1; let z23 := s.2.2.2.2.1; let l24 := s.2.2.2.2.2
 some (([] : List Int), ([] : List Int), ([] : List Int), 0, (0, 0), ([] : List RuleD), false)
noncomputable def F_conf_Find (i1 : Int) (i2 : Int) (i3 : Int) (i4 : Int) (i5 : Int) (i6 : Int) (i7 : Int) (l8 : List UserD) (s9 : List Int) : Option (List Int × List Int × List Int × Int × (Nat × Nat) × List RuleD × Bool) :=
 joinC (S := List Int × List Int × List Int × Int × (Nat × Nat) × List RuleD) (R := List Int × List Int × List Int × Int × (Nat × Nat) × List RuleD × Bool)
 (loopC (S := Int × List Int × List Int × List Int × Int × (Nat × Nat) × List RuleD) (R := (List Int × List Int × List Int × Int × (Nat × Nat) × List RuleD × Bool) ⊕ (List Int × List Int × List Int × Int × (Nat × Nat) × List RuleD)) (F_conf_Find_L3 l8 s9) (0, ([] : List Int), ([] : List Int), ([] : List Int), 0, (0, 0), ([] : List RuleD)))
 (F_conf_Find_J1)
def F_conf_Find_sig : Sig := ⟨[.v true [.d (.int .i64), .d (.int .i64), .d (.int .i64), .d (.int .i64), .d (.int .i64), .d (.int .i64), .d (.int .i64), .d (.sl (.pr .str (.pr (.pr (.sl (.int .u8)) (.sl (.int .u8))) (.pr (.int .i64) (.pr (.cpx .f64) (.sl (.pr .bool (.pr (.int .i64) (.pr .str (.pr (.pr .str (.int .i64)) (.pr (.int .i64) (.int .i64))))))))))))], .v false [.d .str]], [(true, [.d .str, .own 5 (.int .u8), .own 5 (.int .u8), .d (.int .i64), .d (.cpx .f64), .own 68 (.pr .bool (.pr (.int .i64) (.pr .str (.pr (.pr .str (.int .i64)) (.pr (.int .i64) (.int .i64))))))]), (false, [.d .bool])]⟩
def F_conf_Find_ann : List (Nat × Ann) := [(1, ⟨2, [], [(4, [.d .str, .own 5 (.int .u8), .own 5 (.int .u8), .d (.int .i64), .d (.cpx .f64), .own 68 (.pr .bool (.pr (.int .i64) (.pr .str (.pr (.pr .str (.int .i64)) (.pr (.int .i64) (.int .i64))))))])], ([5] ++ List.range' 7 15), []⟩), (3, ⟨4, [(11, false, [.d (.int .i64)])], [(4, [.d .str, .own 5 (.int .u8), .own 5 (.int .u8), .d (.int .i64), .d (.cpx .f64), .own 68 (.pr .bool (.pr (.int .i64) (.pr .str (.pr (.pr .str (.int .i64)) (.pr (.int .i64) (.int .i64))))))])], ([5, 7] ++ List.range' 12 10), []⟩)]
noncomputable def F_conf_Find_env : Env := ⟨Tryz.prog, [(66, ⟨F_conf_copied_sig, ⟨F_conf_copied⟩⟩)], []⟩
theorem F_conf_Find_text : pvFn F_conf_Find_env F_conf_Find_ann Tryz.f34 F_conf_Find_sig = F_conf_Find := by kernel_rfl
end Go.Proofs.YtgfmfgombmpodaaGreatDoor
namespace Go.Proofs.YtgfmfgombmpodaaGreatDoor
open Go.RowKit Pv
set_option linter.unusedVariables false
theorem step_calls {P : Program} {ops : Array Oper} {o : Oper} {a : Act} {w : World} {K : Act -> World -> Prop} {Q : Exit -> Act -> World -> Prop} {E : Prop}
  (hg : o.guard = none) (f : FuncId) (args : Array Operand) (ts : Array TypeId) (hop : o.op = Op.call { callee := Callee.value (.func f), args := args, argTypes := ts })
  (fd : Func) (hfd : P.funcs[f]? = some fd) (hbody : (fd.body.isSome && !(fd.name == "runtime.NumGoroutine")) = true) (vals : Array Value) (hv : args.map a.eval = vals) {R : Ending -> World -> Prop} (hc : Calls P f vals w R)
  (hK : ∀ e w', R e w' -> ∃ v, e = .returned v /\ K (a.put o.dst v) w') : if Region.wanted o (yielded ops a.tmps) = true then Oper.wp P o a w K Q else E := by
 have hw : Region.wanted o (yielded ops a.tmps) = true := by simp [Region.wanted, hg]
 rw [if_pos hw]
 have hex : execOp a.eval o = callFunc f (args.map a.eval) := by
  have ef : a.eval (.func f) = .func (.func f) #[] #[] := rfl
  unfold execOp
  simp [hop, resolve, Deferred.ofValue, invoke, ef]
 unfold Oper.wp
 rw [hex, run_callFunc hfd hbody, Oper.upon_enter, hv]
 refine hc.mono fun e w' he => ?_
 obtain ⟨v, rfl, h⟩ := hK e w' he
 exact h
def limB (k : Nat) (n : Int) : ByteArray := ((⟨#[108, 105, 109, 105, 116, 32]⟩ ++ limW k) ++ ⟨#[32]⟩) ++ ⟨(Lib.itoa n).toArray⟩
def limLine (k : Nat) (n : Int) : List Int := (([108, 105, 109, 105, 116, 32] ++ bytesL (limW k)) ++ [32]) ++ itoaI n
theorem limB_eq (k : Nat) (n : Int) : bytesL (limB k n) = limLine k n := by
 unfold limB limLine
 rw [bytes_append, bytes_append, bytes_append]
 rfl
theorem infoSt : (Tryz.prog.info? 9).map (fun i => (i.zero, i.size, i.bytes)) = some (some (.string ⟨#[]⟩), 1, 16) := by kernel_rfl
theorem itoa_calls {T : Tab} (hp : tab_pow10 ∈ T) {W : World} (hT : TabAt T W) {n : Int} (hn : (Lit.int .i64 n).wf = true) : Calls Tryz.prog 67 #[.int .i64 n] W fun e W' => e = .returned (.string ⟨(Lib.itoa n).toArray⟩) /\ Below W.heap.size W W' := by
 have hn := wf_i64 hn
 refine (Tryz.strconv_Itoa n hn.1 hn.2 W (tabIs_now hT hp (by kernel_rfl))).mono ?_
 rintro e w' ⟨he, k, os, rfl⟩
 exact ⟨he, below_grow _ _ _⟩
def limVs (C : Nat -> Int) (n : Nat) : List Value := (List.range n).map fun j => Value.string (limB j (C j))
set_option maxHeartbeats 8000000 in
set_option maxRecDepth 1000000 in
theorem print_front {T : Tab} (hp : tab_pow10 ∈ T) {w : World} (hT : TabAt T w) {C : Nat -> Int} {v : Value} (hwf : ∀ k, k < 7 -> (Lit.int .i64 (C k)).wf = true) {R : Ending -> World -> Prop}
  (H : ∀ (a : Act) (W : World) (vl : Value), a.tmps.size = Tryz.f37.ntmps -> a.defers = [] -> tm a 1 = .pointer (some ⟨w.heap.size, 0, none⟩) -> tm a 3 = vl -> W.heap[w.heap.size]? = some (.cells (confV C v) 51 (0, 0)) -> Below w.heap.size w W -> W.ownsRow (w.heap.size + 1) 9 1 vl 7 (limVs C 7) ->
   ∀ b c, Tryz.f37.body = some b -> dropTo 7 b = some c -> c.wp Tryz.prog (bodyPost Tryz.prog Tryz.f37 R) a W) :
  Calls Tryz.prog 37 #[.agg (confV C v)] w R := by
 obtain ⟨i0, hi, hz0, hz1, hz2⟩ := info_parts infoSt
 have HH : Aside _ := H
 clear H
 go_enter Tryz.func37, Tryz.ntmps37
 go_wp2_with (go_at_call 60; refine (lims_walk w.heap.size _).mono ?_; rintro e W1 ⟨rfl, hB, hb1⟩)
 have hs1 : w.heap.size + 2 <= W1.heap.size := by have := (Array.getElem?_eq_some_iff.1 hB).1; simp at this; omega
 have hC1 : W1.heap[w.heap.size]? = some (.cells (confV C v) 51 (0, 0)) := by
  rw [hb1.block _ (by simp), heap_alloc_new]
 have hb1 : Below w.heap.size w W1 := ⟨hb1.os, hb1.tape, hb1.output, by omega, fun b hb => (hb1.block b (by simp; omega)).trans (by rw [heap_alloc_old _ _ hb])⟩
 have HB : Aside (W1.heap[w.heap.size + 1]? = some (.cells (limCells w.heap.size) 124 (0, 0)) /\ W1.heap[w.heap.size]? = some (.cells (confV C v) 51 (0, 0))) := ⟨by simpa using hB, hC1⟩
 clear hB hC1
 go_loopw [3, 12] (fun vl vi wr => ∃ k : Nat, vi = .int .i64 k /\ k <= 7 /\ Below W1.heap.size W1 wr /\ Aside (wr.ownsRow W1.heap.size 9 1 vl k (limVs C k))) (fun _ vi _ => 7 - (intOf vi).toNat)
 case atStart => exact ⟨0, rfl, by omega, Below.refl _ _, World.ownsRow_nil _ _ _ _⟩
 case round =>
  obtain ⟨k, rfl, hk, hbr, HO⟩ := hrel
  have hb2 : Below w.heap.size w wr := hb1.trans (hbr.mono hb1.size)
  have blk : ∀ {B : Nat} {o : Obj}, W1.heap[B]? = some o -> wr.heap[B]? = some o := fun h => (hbr.block _ (Array.getElem?_eq_some_iff.1 h).1).trans h
  have hLr := blk HB.out.1
  have hCr := blk HB.out.2
  by_cases hk7 : k < 7
  ·obtain ⟨k0, k1, k2, k3⟩ := lim_at hLr hk7
   have hCk := conf_cell hCr hk7
   have hwk := hwf k hk7
   have hl0 : w.heap.size < wr.heap.size := by have := hbr.size; omega
   obtain ⟨lw, hlw⟩ : ∃ lw, limW k = lw := ⟨_, rfl⟩
   obtain ⟨llo, hllo⟩ : ∃ l, limLo k = l := ⟨_, rfl⟩
   obtain ⟨lhi, hlhi⟩ : ∃ l, limHi k = l := ⟨_, rfl⟩
   rw [hlw] at k0
   rw [hllo] at k1
   rw [hlhi] at k2
   obtain ⟨X, hX⟩ : ∃ X : Obj, X = .cells #[.string lw, .int .i64 llo, .int .i64 lhi, .pointer (some ⟨w.heap.size, k, none⟩)] 124 := ⟨_, rfl⟩
   have hTd : TabAt T (wr.alloc X).drew := fun p hp => by
    obtain ⟨ty, fr, h1⟩ := hT.below hb2 p hp
    exact ⟨ty, fr, (heap_alloc_old wr X (Array.getElem?_eq_some_iff.1 h1).1).trans h1⟩
   have hkey : Aside (∀ W6 : World, Below ((wr.alloc X).drew).heap.size (wr.alloc X).drew W6 -> W6.cell? ⟨wr.heap.size, 0, none⟩ = some (.string lw) /\ wr.heap.size < W6.heap.size /\ Below wr.heap.size wr W6) := fun W6 hb => by
    have hz : ((wr.alloc X).drew).heap.size = wr.heap.size + 1 := by show (wr.alloc X).heap.size = _; simp
    refine ⟨?_, by have := hb.size; omega, ?_⟩
    ·rw [cell_at (show W6.heap[wr.heap.size]? = some (.cells #[.string lw, .int .i64 llo, .int .i64 lhi, .pointer (some ⟨w.heap.size, k, none⟩)] 124 (0, 0)) from by rw [hb.block _ (by omega), <- hX]; exact heap_alloc_new wr X)]
     rfl
    ·refine Below.trans (b := (wr.alloc X).drew) ((Below.refl _ wr).alloc (Nat.le_refl _) _).drew (hb.mono (by omega))
   have hXa : Aside _ := hX
   have HR : Aside (_ /\ _) := ⟨hLr, hCr⟩
   have HW : Aside (limW k = lw) := hlw
   clear hllo hlhi hLr hCr blk
   have hl1 : ¬ (9223372036854775807 < 6 + lw.size) := by rw [<- hlw]; match k, hk7 with | 0, _ | 1, _ | 2, _ | 3, _ | 4, _ | 5, _ | 6, _ => decide
   have hl2 : ¬ (9223372036854775807 < 6 + lw.size + 1) := by rw [<- hlw]; match k, hk7 with | 0, _ | 1, _ | 2, _ | 3, _ | 4, _ | 5, _ | 6, _ => decide
   have hl3 : ¬ (9223372036854775807 < 6 + lw.size + 1 + (Lib.itoa (C k)).length) := by
    have q1 := wf_i64 hwk
    have q2 := Lib.itoa_length_le (C k) q1.1 q1.2
    have q3 : lw.size <= 7 := by rw [<- hlw]; match k, hk7 with | 0, _ | 1, _ | 2, _ | 3, _ | 4, _ | 5, _ | 6, _ => decide
    omega
   clear hlw
   go_wp2
   rw [hX] at hTd hkey
   go_region_law (first
    | (refine step_calls rfl 67 #[.tmp 24] #[3] rfl Tryz.f67 Tryz.func67 rfl #[.int .i64 (C k)] (by simp [Act.eval, Act.put]) (itoa_calls hp hTd hwk) ?_; rintro e W6 ⟨rfl, hb6⟩; refine ⟨_, rfl, ?_⟩; obtain ⟨e60, e61, e62⟩ := hkey.out W6 hb6; have HB6 : Aside (_ /\ _) := ⟨e61, e62⟩; clear e61 e62 hb6)
    | (refine step_append_own_at rfl (.tmp 16) (.tmp 27) 47 rfl W1.heap.size 9 i0 (.string ⟨#[]⟩) 1 16 Tryz.underlying47 hi hz0 hz1 hz2 rfl (by decide) u3 k (limVs C k) (by simp [Act.eval, Act.put]) (owns_keep HO.out fun b hb => (heap_alloc_old _ _ (Nat.lt_of_lt_of_le (HO.out.lt b hb).2 HB6.out.2.size)).trans (HB6.out.2.block b (HO.out.lt b hb).2)) ⟨_, 0, none⟩ 1 1 [_] (by simp [Act.eval, Act.put]) rfl (cells_new _ _ _) (fun u hu => by rw [List.mem_singleton] at hu; subst hu; rfl) (by unfold maxLen; omega) (by omega) (Nat.le_trans hbr.size (Nat.le_trans HB6.out.2.size (by simp))) ?_; intro v' wz hown' hgrow hat'; have HN : Aside (_ /\ _ /\ _) := ⟨hown', hgrow, hat'⟩; clear hown' hgrow hat'))
   all_goals
    go_wp2
    have hbz : Below W1.heap.size W1 wz := ((hbr.trans (HB6.out.2.mono hbr.size)).alloc (Nat.le_trans hbr.size HB6.out.2.size) _).grown HN.out.2.1 (Nat.le_trans (Nat.le_trans hbr.size HB6.out.2.size) (by simp)) (fun b hb => (HO.out.lt b hb).1)
    refine ⟨⟨k + 1, rfl, by omega, hbz, ?_⟩, by simp [intOf]; omega⟩
    have hown := HN.out.1
    have e : limVs C (k + 1) = limVs C k ++ [Value.string (limB k (C k))] := by
     unfold limVs
     rw [List.range_succ, List.map_append]; rfl
    rw [e]
    unfold limB
    rw [HW.out]
    exact hown
  ·have hk7 : k = 7 := by omega
   subst hk7
   iterate 16 (first | (go_step) | go_upon | (simp only [Int.not_lt, Int.not_le] at *; go_simp) | (go_values <;> (try go_simp)) | (go_ite <;> go_prune <;> (try go_simp)))
   refine HH.out _ _ _ rfl rfl rfl rfl ?h5 ?h6 ?h7 _ _ rfl (by kernel_rfl)
   ·exact hCr
   ·exact hb2
   ·exact ⟨HO.out.1, HO.out.2.imp id fun ⟨g, cap, cur, q1, q2, q3⟩ => ⟨g, cap, cur, q1, by omega, q3⟩⟩
end Go.Proofs.YtgfmfgombmpodaaGreatDoor
namespace Go.Proofs.YtgfmfgombmpodaaGreatDoor
open Go.RowKit Go.Shelf Pv
set_option linter.unusedVariables false
def dbTab : List Int := [0, 1, 56, 2, 57, 49, 28, 3, 61, 58, 42, 50, 38, 29, 17, 4, 62, 47, 59, 36, 45, 43, 51, 22, 53, 39, 33, 30, 24, 18, 12, 5, 63, 55, 48, 27, 60, 41, 37, 16, 46, 35, 44, 21, 52, 32, 23, 11, 54, 26, 40, 15, 34, 20, 31, 10, 25, 14, 19, 9, 13, 8, 7, 6]
def tab_db : Nat × Array Value := tabOf 7 .u8 dbTab
theorem db_at : tab_db.2[15]? = some (Value.int .u8 4) := by kernel_rfl
def dgA : ByteArray := ⟨#[48, 49, 50, 51, 52, 53, 54, 55, 56, 57, 97, 98, 99, 100, 101, 102, 103, 104, 105, 106, 107, 108, 109, 110, 111, 112, 113, 114, 115, 116, 117, 118, 119, 120, 121, 122]⟩
theorem dgA_at {q : Nat} (h : q < 16) : ((dgA[q]'(show q < 36 by omega)).toNat : Int) = hexd q := by
 have key : (List.range 16).all (fun q => decide ((((dgA.data.toList.getD q 0).toNat : Nat) : Int) = hexd q)) = true := by kernel_rfl
 have := of_decide_eq_true (List.all_eq_true.1 key q (List.mem_range.2 h))
 rw [<- this, List.getD_eq_getElem?_getD, List.getElem?_eq_getElem (show q < dgA.data.toList.length from (show q < 36 by omega))]
 rfl
theorem and15f {n : Nat} (h : n < 65536) : bits .and .u64 (n : Int) 15 = ((n % 16 : Nat) : Int) := by
  have := bits_mask .u64 16 (by decide) (fun m h0 h1 => by
    show m % 18446744073709551616 = m
    have e : (2 : Int) ^ 16 = 65536 := rfl
    omega) 4 (by decide) (n : Int) (by omega) (by have e : (2 : Int) ^ 16 = 65536 := rfl
                                                  omega)
  have e : (2 : Int) ^ 4 - 1 = 15 := rfl
  rw [e] at this
  rw [this]
  have e : (2 : Int) ^ 4 = 16 := rfl
  rw [e]; omega
theorem wf_bf {x : Int} (h0 : 0 <= x) (h1 : x < 256) : (Lit.int .u8 x).wf = true := by
 simp [Lit.wf, IntKind.min, IntKind.max, IntKind.signed, IntKind.bits]
 omega
def digC (D : List Int) : Array Value := (List.replicate (65 - D.length) (Value.int .u8 0) ++ bv D).toArray
set_option maxHeartbeats 4000000 in
set_option maxRecDepth 1000000 in
theorem tz_walk (w : World) (hdb : w.cell? ⟨7, 15, none⟩ = some (.int .u8 4)) : Calls Tryz.prog 211 #[.int .u64 16] w fun e w' => e = .returned (.int .i64 4) /\ w' = w := by
 have h1 : bits BinOp.and IntKind.u64 16 (IntKind.u64.wrap (-16)) = 16 := by kernel_rfl
 have h2 : IntKind.u64.wrap 4573923408821661840 = 4573923408821661840 := by kernel_rfl
 go_enter Tryz.func211, Tryz.ntmps211
 go_wp2
 go_ret
 exact ⟨rfl, rfl⟩
set_option maxHeartbeats 4000000 in
set_option maxRecDepth 1000000 in
theorem p2_walk (w : World) : Calls Tryz.prog 210 #[.int .i64 16] w fun e w' => e = .returned (.bool true) /\ w' = w := by
 have h1 : bits BinOp.and IntKind.i64 16 15 = 0 := by kernel_rfl
 go_enter Tryz.func210, Tryz.ntmps210
 go_wp2
 go_ret
 exact ⟨rfl, rfl⟩
theorem digC_set {D : List Int} {d : Int} {W : World} {A : Nat} {T : TypeId} (h : W.heap[A]? = some (.cells (digC D) T (0, 0))) (hD : D.length <= 64) :
  (W.setCell ⟨A, 65 - D.length - 1, none⟩ (.int .u8 d)).heap[A]? = some (.cells (digC (d :: D)) T (0, 0)) := by
 rw [setCell_heap, if_pos rfl, h]
 show some (Obj.cells ((digC D).setIfInBounds (65 - D.length - 1) (.int .u8 d)) T (0, 0)) = _
 congr 2
 unfold digC
 rw [List.length_cons]
 obtain ⟨m, hm⟩ : ∃ m, 65 - D.length = m + 1 := ⟨64 - D.length, by omega⟩
 rw [hm, show m + 1 - 1 = m by omega, show 65 - (D.length + 1) = m by omega]
 apply Array.ext'
 rw [Array.toList_setIfInBounds]
 show (List.replicate (m + 1) (Value.int .u8 0) ++ bv D).set m (Value.int .u8 d) = List.replicate m (Value.int .u8 0) ++ bv (d :: D)
 rw [List.replicate_succ', List.append_assoc, List.set_append_right _ _ (by simp), List.length_replicate, Nat.sub_self]
 rfl
theorem digC_size (D : List Int) (h : D.length <= 65) : (digC D).size = 65 := by
 unfold digC
 simp [bv_len]; omega
theorem digC_at {D : List Int} {j : Nat} {x : Int} (hD : D.length <= 65) (h : D[j]? = some x) : (digC D)[65 - D.length + j]? = some (.int .u8 x) := by
 unfold digC
 rw [List.getElem?_toArray, List.getElem?_append_right (by simp), List.length_replicate, Nat.add_sub_cancel_left]
 unfold bv
 rw [List.getElem?_map, h]; rfl
theorem zero180 : Tryz.zeroCells269 = digC [] := by kernel_rfl
set_option maxHeartbeats 4000000 in
set_option maxRecDepth 1000000 in
theorem bits_walk (U : Nat) (hU : U < 65536) (w : World) (hdb : w.cell? ⟨7, 15, none⟩ = some (.int .u8 4)) :
    Calls Tryz.prog 182 #[.slice none 0 0, .int .u64 U, .int .i64 16, .bool false, .bool false] w fun e w' => ∃ s : ByteArray, e = .returned (.tuple #[.slice none 0 0, .string s]) /\ bytesL s = hexI U /\ s.size <= maxLen /\ Below w.heap.size w w' := by
  have hg : 7 < w.heap.size := cell_lt hdb
  have hdb' : ∀ o, (w.alloc o).cell? ⟨7, 15, none⟩ = some (.int .u8 4) := fun o => by
    rw [World.cell?_alloc_lt _ _ _ hg]; exact hdb
  have h1 : bits BinOp.and IntKind.i64 16 15 = 0 := by kernel_rfl
  go_enter Tryz.func182, Tryz.ntmps182
  go_wp2_with (first | (go_at_call 211; refine (tz_walk _ (hdb' _)).mono ?_; rintro e w' ⟨rfl, rfl⟩) | (go_at_call 210; refine (p2_walk _).mono ?_; rintro e w' ⟨rfl, rfl⟩))
  go_loopw [1, 13] (fun u i wr => ∃ (D : List Int) (uk j : Nat), u = .int .u64 uk /\ i = .int .i64 ((j : Int) + 1) /\ j + 1 = 65 - D.length /\ D.length <= 3 /\ uk < 16 ^ (4 - D.length) /\ uk < 65536 /\ hexI U = hexI uk ++ D /\ wr.heap[w.heap.size]? = some (.cells (digC D) 269 (0, 0)) /\ Below w.heap.size w wr) (fun u _ _ => (intOf u).toNat)
  case atStart =>
    refine ⟨[], U, 64, rfl, rfl, rfl, by simp, hU, hU, by simp, ?_, (Below.refl _ w).alloc (Nat.le_refl _) _⟩
    rw [<- zero180]
    exact heap_alloc_new w _
  case round =>
    obtain ⟨D, uk, j, rfl, rfl, hj, hD, hu, hu6, hhex, hcell, hb⟩ := hrel
    have hsz : (digC D).size = 65 := digC_size D (by omega)
    have hc0 : wr.cell? ⟨w.heap.size, j, none⟩ = some (.int .u8 0) := by
      rw [cell_at hcell]
      unfold digC
      rw [List.getElem?_toArray, List.getElem?_append_left (by simp; omega), List.getElem?_replicate, if_pos (by omega)]
    have hfz : wr.frozen? ⟨w.heap.size, j, none⟩ = false := frozen_at hcell (.inr (Nat.zero_le _))
    have hj0 : (0 : Int) <= (j : Int) := by omega
    have hj1 : (j : Int) <= 65 := by omega
    have hj2 : (j : Int) < 65 := by omega
    have hj3 : ¬ (65 : Int) < (j : Int) := by omega
    by_cases hge : uk < 16
    · have hnge : ¬ (16 : Int) <= (uk : Int) := by omega
      go_wp2
      have hfull : hexI U = hexd uk :: D := by rw [hhex, hexI_one hge]; rfl
      have hcell2 := digC_set (d := hexd uk) hcell (by omega)
      rw [show 65 - D.length - 1 = j by omega] at hcell2
      have hrep : RepD (wr.setCell ⟨w.heap.size, j, none⟩ (.int .u8 (hexd uk))) (fun _ _ => True) (.sl (.int .u8)) (hexd uk :: D) [.slice (some ⟨w.heap.size, j, none⟩) (65 - j) (65 - j)] := by
        refine ⟨_, _, _, rfl, (by show List.length (α := Int) (hexd uk :: D) = _; rw [List.length_cons]; omega), Nat.le_refl _, by unfold maxLen; omega, fun i x hx => ⟨⟨w.heap.size, j, none⟩, [.int .u8 x], rfl, rfl, fun k u hk => ?_, rfl, ?_⟩⟩
        · obtain ⟨hk0, rfl⟩ : k = 0 /\ u = .int .u8 x := by
            match k, hk with
            | 0, hk => simp at hk; exact ⟨rfl, hk.symm⟩
          subst hk0
          refine ⟨?_, trivial⟩
          rw [add_at, show (Ty.int .u8).size = 1 from rfl, Nat.mul_one, Nat.add_zero, cell_at hcell2]
          have := digC_at (D := hexd uk :: D) (j := i) (by rw [List.length_cons]; omega) hx
          rwa [show 65 - (hexd uk :: D).length = j by rw [List.length_cons]; omega] at this
        · have hm : x ∈ hexI U := by rw [hfull]; exact List.mem_of_getElem? hx
          have := hex_mem 3 U (by simpa using hU) hU x hm
          exact wf_bf (by omega) (by omega)
      obtain ⟨s, hrun, hs, hss⟩ := bytes_run (P := Tryz.prog) Tryz.underlying32 Tryz.underlying5 Tryz.underlying9 hrep
      have hd := dgA_at hge
      unfold dgA at hd
      rw [hd, hrun]
      have hb2 : Below w.heap.size w (wr.setCell ⟨w.heap.size, j, none⟩ (.int .u8 (hexd uk))) := hb.trans ⟨rfl, rfl, rfl, by simp [World.setCell], fun k hk => by rw [setCell_heap, if_neg (by show k ≠ w.heap.size; omega)]⟩
      generalize wr.setCell ⟨w.heap.size, j, none⟩ (.int .u8 (hexd uk)) = W at *
      go_wp2
      go_ret2
      exact ⟨s, rfl, hs.trans (by rw [hexI_one hge]; rfl), hss, hb2⟩
    · have hyes : (16 : Int) <= (uk : Int) := by omega
      have h15 := and15f hu6
      go_wp2
      have hd := dgA_at (show uk % 16 < 16 by omega)
      unfold dgA at hd
      rw [hd]
      have hcell2 := digC_set (d := hexd (uk % 16)) hcell (by omega)
      rw [show 65 - D.length - 1 = j by omega] at hcell2
      have hb2 : Below w.heap.size w (wr.setCell ⟨w.heap.size, j, none⟩ (.int .u8 (hexd (uk % 16)))) := hb.trans ⟨rfl, rfl, rfl, by simp [World.setCell], fun k hk => by rw [setCell_heap, if_neg (by show k ≠ w.heap.size; omega)]⟩
      have hD3 : D.length <= 2 := by
        rcases Nat.lt_or_ge D.length 3 with h | h
        · omega
        · have : D.length = 3 := by omega
          rw [this] at hu
          simp at hu; omega
      obtain ⟨k, hk⟩ : ∃ k, j = k + 1 := ⟨j - 1, by omega⟩
      refine ⟨⟨hexd (uk % 16) :: D, uk / 16, k, by congr 1, by rw [hk]; congr 1, by rw [List.length_cons]; omega, by rw [List.length_cons]; omega, ?_, by omega, ?_, hcell2, hb2⟩, ?_⟩
      · rw [List.length_cons, Nat.div_lt_iff_lt_mul (by decide), <- Nat.pow_succ, show (4 - (D.length + 1)).succ = 4 - D.length by omega]
        exact hu
      · rw [hhex, hexI_step hge hu6, List.append_assoc]; rfl
      · simp [intOf]; omega
set_option maxHeartbeats 4000000 in
set_option maxRecDepth 1000000 in
theorem fmt_walk (n : Nat) (hn : n < 65536) (w : World) (hdb : w.cell? ⟨7, 15, none⟩ = some (.int .u8 4)) :
  Calls Tryz.prog 144 #[.int .i64 n, .int .i64 16] w fun e w' => ∃ s : ByteArray, e = .returned (.string s) /\ bytesL s = hexI n /\ s.size <= maxLen /\ Below w.heap.size w w' := by
 have h0 : ¬ (n : Int) < 0 := by omega
 have h1 : IntKind.u64.wrap (n : Int) = (n : Int) := by
  show (n : Int) % 18446744073709551616 = _
  omega
 go_enter Tryz.func144, Tryz.ntmps144
 go_wp2_with (go_at_call 182; refine (bits_walk n hn _ hdb).mono ?_; rintro e w' ⟨s, rfl, h2, h3, h4⟩)
 go_wp2
 go_ret
 exact ⟨s, rfl, h2, h3, h4⟩
set_option maxHeartbeats 4000000 in
set_option maxRecDepth 1000000 in
theorem fmt_call (n : Nat) (hn : n < 65536) (w : World) (hdb : w.cell? ⟨7, 15, none⟩ = some (.int .u8 4)) :
  Calls Tryz.prog 184 #[.int .i64 n, .int .i64 16] w fun e w' => ∃ s : ByteArray, e = .returned (.string s) /\ bytesL s = hexI n /\ s.size <= maxLen /\ Below w.heap.size w w' := by
 go_enter Tryz.func184, Tryz.ntmps184
 go_wp2_with (go_at_call 144; refine (fmt_walk n hn _ hdb).mono ?_; rintro e w' ⟨s, rfl, h2, h3, h4⟩)
 go_wp2
 go_ret
 exact ⟨s, rfl, h2, h3, h4⟩
theorem F_strconv_FormatInt_sound {T : Tab} (h_db : tab_db ∈ T) : SoundFn Tryz.prog T 184 F_strconv_FormatInt_sig ⟨F_strconv_FormatInt⟩ := by
 refine sound_d rfl fun F g O xs ls y tmf w args hT hls happ hsz hr => ?_
 obtain ⟨(n : Int), xs', rfl, h2⟩ := appF_inv_c (ts := [.int .i64]) happ
 obtain ⟨(b : Int), xs'', rfl, h2'⟩ := appF_inv_c (ts := []) h2
 obtain ⟨rfl, h3⟩ := appF_inv_n h2'
 have hls' : some [Leaf.d (.int .i64) n, Leaf.d (.int .i64) b] = some ls := hls
 injection hls' with hls'
 subst hls'
 obtain ⟨e0, e1⟩ := rel_int (hr 0)
 obtain ⟨f0, f1⟩ := rel_int (hr 1)
 rw [args_2 hsz, e0, f0]
 have h3 : cond (b == 16 && decide (0 <= n) && decide (n < 65536)) (some (hexI n.toNat)) none = some y := h3
 cases hb : (b == 16 && decide (0 <= n) && decide (n < 65536)) with
 | false => rw [hb] at h3; cases h3
 | true =>
  rw [hb] at h3
  have hy : hexI n.toNat = y := by injection h3
  simp only [Bool.and_eq_true, beq_iff_eq, decide_eq_true_eq] at hb
  obtain ⟨⟨rfl, h0⟩, h1⟩ := hb
  obtain ⟨m, rfl⟩ := Int.eq_ofNat_of_zero_le h0
  rw [Int.toNat_natCast] at hy
  have hdb : w.cell? ⟨7, 15, none⟩ = some (.int .u8 4) := by
   obtain ⟨ty, fr, hh⟩ := hT _ h_db
   have hh : w.heap[(7 : Nat)]? = some (.cells tab_db.2 ty fr) := hh
   exact (cell_at hh 15).trans db_at
  refine (fmt_call m (by omega) w hdb).mono ?_
  rintro e w' ⟨s, rfl, h2, h3, h4⟩
  refine ⟨[.string s], [.d .str y], rfl, rfl, rfl, h4, fun i hi => ?_⟩
  match i, hi with
  | 0, _ => exact ⟨[.string s], ⟨_, [], rfl, ⟨s, rfl, h2.trans hy, h3⟩, rfl⟩, rfl⟩
end Go.Proofs.YtgfmfgombmpodaaGreatDoor
namespace Go.Proofs.YtgfmfgombmpodaaGreatDoor
open Pv
theorem F_wlvlaw18_first_sound {T : Tab} (h_maxlen : has_maxlen T) (h_pow10 : tab_pow10 ∈ T) (h_errs : has_errs T) : SoundFn Tryz.prog T 25 F_wlvlaw18_first_sig ⟨F_wlvlaw18_first⟩ := by
 have h := fn_sound (T := T) (E := F_wlvlaw18_first_env) (by unfold Env.ok; exact List.forall_mem_cons.2 ⟨F_conf_Parse_sound h_maxlen h_pow10 h_errs, fun p h => by cases h⟩) (A := F_wlvlaw18_first_ann) (f := 25) (fn := Tryz.f25) (s := F_wlvlaw18_first_sig) Tryz.func25
 rw [F_wlvlaw18_first_text] at h
 exact h
theorem F_tally_count_sound {T : Tab} : SoundFn Tryz.prog T 146 F_tally_count_sig ⟨F_tally_count⟩ := by
 have h := fn_sound (T := T) (E := F_tally_count_env) (by unfold Env.ok; exact fun p h => by cases h) (A := F_tally_count_ann) (f := 146) (fn := Tryz.f146) (s := F_tally_count_sig) Tryz.func146
 rw [F_tally_count_text] at h
 exact h
theorem F_tally_parts_sound {T : Tab} : SoundFn Tryz.prog T 111 F_tally_parts_sig ⟨F_tally_parts⟩ := by
 have h := fn_sound (T := T) (E := F_tally_parts_env) (by unfold Env.ok; exact List.forall_mem_cons.2 ⟨F_tally_count_sound, fun p h => by cases h⟩) (A := F_tally_parts_ann) (f := 111) (fn := Tryz.f111) (s := F_tally_parts_sig) Tryz.func111
 rw [F_tally_parts_text] at h
 exact h
theorem F_tally_Up_sound {T : Tab} : SoundFn Tryz.prog T 70 F_tally_Up_sig ⟨F_tally_Up⟩ := by
 have h := fn_sound (T := T) (E := F_tally_Up_env) (by unfold Env.ok; exact List.forall_mem_cons.2 ⟨F_tally_parts_sound, fun p h => by cases h⟩) (A := F_tally_Up_ann) (f := 70) (fn := Tryz.f70) (s := F_tally_Up_sig) Tryz.func70
 rw [F_tally_Up_text] at h
 exact h
theorem F_tally_Down_sound {T : Tab} : SoundFn Tryz.prog T 71 F_tally_Down_sig ⟨F_tally_Down⟩ := by
 have h := fn_sound (T := T) (E := F_tally_Down_env) (by unfold Env.ok; exact List.forall_mem_cons.2 ⟨F_tally_parts_sound, fun p h => by cases h⟩) (A := F_tally_Down_ann) (f := 71) (fn := Tryz.f71) (s := F_tally_Down_sig) Tryz.func71
 rw [F_tally_Down_text] at h
 exact h
theorem F_addr_Print_sound {T : Tab} (h_pow10 : tab_pow10 ∈ T) (h_db : tab_db ∈ T) : SoundFn Tryz.prog T 147 F_addr_Print_sig ⟨F_addr_Print⟩ := by
 have h := fn_sound (T := T) (E := F_addr_Print_env) (by unfold Env.ok; exact List.forall_mem_cons.2 ⟨F_strconv_Itoa_sound h_pow10, List.forall_mem_cons.2 ⟨F_strings_Join_sound, List.forall_mem_cons.2 ⟨F_strconv_FormatInt_sound h_db, fun p h => by cases h⟩⟩⟩) (A := F_addr_Print_ann) (f := 147) (fn := Tryz.f147) (s := F_addr_Print_sig) Tryz.func147
 rw [F_addr_Print_text] at h
 exact h
theorem F_addr_PrintNet_sound {T : Tab} (h_pow10 : tab_pow10 ∈ T) (h_db : tab_db ∈ T) : SoundFn Tryz.prog T 112 F_addr_PrintNet_sig ⟨F_addr_PrintNet⟩ := by
 have h := fn_sound (T := T) (E := F_addr_PrintNet_env) (by unfold Env.ok; exact List.forall_mem_cons.2 ⟨F_strconv_Itoa_sound h_pow10, List.forall_mem_cons.2 ⟨F_addr_Print_sound h_pow10 h_db, fun p h => by cases h⟩⟩) (A := F_addr_PrintNet_ann) (f := 112) (fn := Tryz.f112) (s := F_addr_PrintNet_sig) Tryz.func112
 rw [F_addr_PrintNet_text] at h
 exact h
theorem F_conf_Rule_line_sound {T : Tab} (h_pow10 : tab_pow10 ∈ T) (h_db : tab_db ∈ T) : SoundFn Tryz.prog T 72 F_conf_Rule_line_sig ⟨F_conf_Rule_line⟩ := by
 have h := fn_sound (T := T) (E := F_conf_Rule_line_env) (by unfold Env.ok; exact List.forall_mem_cons.2 ⟨F_strconv_Itoa_sound h_pow10, List.forall_mem_cons.2 ⟨F_strings_Join_sound, List.forall_mem_cons.2 ⟨F_addr_PrintNet_sound h_pow10 h_db, fun p h => by cases h⟩⟩⟩) (A := F_conf_Rule_line_ann) (f := 72) (fn := Tryz.f72) (s := F_conf_Rule_line_sig) Tryz.func72
 rw [F_conf_Rule_line_text] at h
 exact h
theorem F_conf_copied_sound {T : Tab} : SoundFn Tryz.prog T 66 F_conf_copied_sig ⟨F_conf_copied⟩ := by
 have h := fn_sound (T := T) (E := F_conf_copied_env) (by unfold Env.ok; exact List.forall_mem_cons.2 ⟨F_bytes_Clone_sound, List.forall_mem_cons.2 ⟨F_slices_Clone_conf_Rule_conf_Rule_sound, fun p h => by cases h⟩⟩) (A := F_conf_copied_ann) (f := 66) (fn := Tryz.f66) (s := F_conf_copied_sig) Tryz.func66
 rw [F_conf_copied_text] at h
 exact h
theorem F_conf_Find_sound {T : Tab} : SoundFn Tryz.prog T 34 F_conf_Find_sig ⟨F_conf_Find⟩ := by
 have h := fn_sound (T := T) (E := F_conf_Find_env) (by unfold Env.ok; exact List.forall_mem_cons.2 ⟨F_conf_copied_sound, fun p h => by cases h⟩) (A := F_conf_Find_ann) (f := 34) (fn := Tryz.f34) (s := F_conf_Find_sig) Tryz.func34
 rw [F_conf_Find_text] at h
 exact h
end Go.Proofs.YtgfmfgombmpodaaGreatDoor
namespace Go.Proofs.YtgfmfgombmpodaaGreatDoor
open Go.RowKit Pv
set_option linter.unusedVariables false
def limLines (C : Nat -> Int) : List (List Int) := (List.range 7).map fun k => limLine k (C k)
noncomputable def F_conf_Print (c0 c1 c2 c3 c4 c5 c6 : Int) (us : List UserD) : Option (List (List Int)) := F_conf_Print_mid c0 c1 c2 c3 c4 c5 c6 us (limLines (seven c0 c1 c2 c3 c4 c5 c6))
theorem lim_row {w : World} {C : Com} {cap : Nat} {cur : Array Value} {D : Nat -> Int} (hD : ∀ k, k < 7 -> (Lit.int .i64 (D k)).wf = true) (hcs : cur.size = cap * 1) (h7 : 7 <= cap) (ht : cur.toList.take (7 * 1) = limVs D 7) :
  ∀ (i : Nat) (x : List Int), (limLines D)[i]? = some x -> RepD w C .str x ((cur.toList.drop (i * 1)).take 1) := fun i x hx => by
 have hi : i < 7 := by
  have := (List.getElem?_eq_some_iff.1 hx).1
  simpa [limLines] using this
 have hx : x = limLine i (D i) := by
  unfold limLines at hx
  rw [List.getElem?_map, List.getElem?_range hi] at hx
  injection hx with hx
  exact hx.symm
 have hv : (limVs D 7)[i]? = some (.string (limB i (D i))) := by
  unfold limVs
  rw [List.getElem?_map, List.getElem?_range hi]; rfl
 have hc : cur.toList[i]? = some (.string (limB i (D i))) := by
  rw [<- ht, List.getElem?_take, if_pos (by omega)] at hv
  exact hv
 have e : (cur.toList.drop (i * 1)).take 1 = [.string (limB i (D i))] := by
  rw [Nat.mul_one]
  obtain ⟨hl, he⟩ := List.getElem?_eq_some_iff.1 hc
  rw [List.drop_eq_getElem_cons hl, he]
  rfl
 rw [e, hx]
 refine ⟨_, rfl, limB_eq i (D i), ?_⟩
 have q0 := wf_i64 (hD i hi)
 have q1 := Lib.itoa_length_le (D i) q0.1 q0.2
 have q2 : (limB i (D i)).size = (bytesL (limB i (D i))).length := by unfold bytesL; rw [List.length_map, Array.length_toList]; rfl
 rw [q2, limB_eq]
 unfold limLine itoaI
 have q3 : (bytesL (limW i)).length <= 7 := by
  match i, hi with
  | 0, _ | 1, _ | 2, _ | 3, _ | 4, _ | 5, _ | 6, _ => decide
 simp only [List.length_append, List.length_map, List.length_cons, List.length_nil]
 have hm : maxLen = 9223372036854775807 := rfl
 omega
set_option maxHeartbeats 4000000 in
set_option maxRecDepth 1000000 in
theorem F_conf_Print_sound {T : Tab} (h_pow10 : tab_pow10 ∈ T) (h_db : tab_db ∈ T) : SoundFn Tryz.prog T 37 F_conf_Print_sig ⟨F_conf_Print⟩ := by
  intro F g st xs y tmf w args hT hent happ hrel hw hn hsz htm
  obtain ⟨(c0 : Int), _, rfl, h1⟩ := appF_inv_c happ
  obtain ⟨(c1 : Int), _, rfl, h2⟩ := appF_inv_c h1
  obtain ⟨(c2 : Int), _, rfl, h3⟩ := appF_inv_c h2
  obtain ⟨(c3 : Int), _, rfl, h4⟩ := appF_inv_c h3
  obtain ⟨(c4 : Int), _, rfl, h5⟩ := appF_inv_c h4
  obtain ⟨(c5 : Int), _, rfl, h6⟩ := appF_inv_c h5
  obtain ⟨(c6 : Int), _, rfl, h7⟩ := appF_inv_c h6
  obtain ⟨(us : List UserD), _, rfl, h8⟩ := appF_inv_c (ts := []) h7
  obtain ⟨rfl, h9⟩ := appF_inv_n h8
  have h9 : F_conf_Print c0 c1 c2 c3 c4 c5 c6 us = some y := h9
  have hst : st.φ 0 = .w true [Leaf.d (.int .i64) c0, .d (.int .i64) c1, .d (.int .i64) c2, .d (.int .i64) c3, .d (.int .i64) c4, .d (.int .i64) c5, .d (.int .i64) c6, .d (.sl userT) us] := by
    have e : (entrySt F_conf_Print_sig [⟨.int .i64, c0⟩, ⟨.int .i64, c1⟩, ⟨.int .i64, c2⟩, ⟨.int .i64, c3⟩, ⟨.int .i64, c4⟩, ⟨.int .i64, c5⟩, ⟨.int .i64, c6⟩, ⟨.sl userT, us⟩]).map (fun s => s.φ 0) = some (.w true [Leaf.d (.int .i64) c0, .d (.int .i64) c1, .d (.int .i64) c2, .d (.int .i64) c3, .d (.int .i64) c4, .d (.int .i64) c5, .d (.int .i64) c6, .d (.sl userT) us]) := rfl
    have hent : entrySt F_conf_Print_sig [⟨.int .i64, c0⟩, ⟨.int .i64, c1⟩, ⟨.int .i64, c2⟩, ⟨.int .i64, c3⟩, ⟨.int .i64, c4⟩, ⟨.int .i64, c5⟩, ⟨.int .i64, c6⟩, ⟨.sl userT, us⟩] = some st := hent
    rw [hent] at e
    injection e
  have r0 := hrel.slots 0
  rw [hst, htm] at r0
  have r0 : RelV F g w st.O (args.getD 0 undef) true [Leaf.d (.int .i64) c0, .d (.int .i64) c1, .d (.int .i64) c2, .d (.int .i64) c3, .d (.int .i64) c4, .d (.int .i64) c5, .d (.int .i64) c6, .d (.sl userT) us] := r0
  obtain ⟨_, ⟨_, _, rfl, ⟨rfl, w0⟩, _, _, rfl, ⟨rfl, w1⟩, _, _, rfl, ⟨rfl, w2⟩, _, _, rfl, ⟨rfl, w3⟩, _, _, rfl, ⟨rfl, w4⟩, _, _, rfl, ⟨rfl, w5⟩, _, _, rfl, ⟨rfl, w6⟩, _, _, rfl, r8, rfl⟩, e0⟩ := r0
  have r8 : RepD w g.C (.sl userT) us _ := r8
  obtain ⟨a0, n0, cp0, rfl, r8'⟩ := r8
  have r8 : RepD w g.C (.sl userT) us [.slice a0 n0 cp0] := ⟨a0, n0, cp0, rfl, r8'⟩
  have hsz : args.size = 1 := hsz
  rw [args_1 hsz, show args.getD 0 undef = .agg (confV (seven c0 c1 c2 c3 c4 c5 c6) (.slice a0 n0 cp0)) from e0]
  have hwf : ∀ k, k < 7 -> (Lit.int .i64 (seven c0 c1 c2 c3 c4 c5 c6 k)).wf = true := fun k hk => by
    match k, hk with
    | 0, _ => exact w0
    | 1, _ => exact w1
    | 2, _ => exact w2
    | 3, _ => exact w3
    | 4, _ => exact w4
    | 5, _ => exact w5
    | 6, _ => exact w6
  refine print_front h_pow10 (fun p hp => (tab_now hT hrel.fr p hp).1) hwf ?_
  intro a W vl ha hdf ht1 ht3 hcell hbel hown b c hb hc
  have hE : F_conf_Print_env.ok T := by
    unfold Env.ok
    exact List.forall_mem_cons.2 ⟨F_strconv_Itoa_sound h_pow10, List.forall_mem_cons.2 ⟨F_strings_Join_sound, List.forall_mem_cons.2 ⟨F_conf_Hex_sound, List.forall_mem_cons.2 ⟨F_tally_Up_sound, List.forall_mem_cons.2 ⟨F_tally_Down_sound, List.forall_mem_cons.2 ⟨F_conf_Rule_line_sound h_pow10 h_db, fun p h => by cases h⟩⟩⟩⟩⟩⟩
  rcases hown.2 with ⟨_, h70⟩ | ⟨U, cap, cur, hvl, hUlo, hUc, hlc, hcm, hcs, htake⟩
  · cases h70
  have hUs : U < W.heap.size := (Array.getElem?_eq_some_iff.1 hUc).1
  have hBs : w.heap.size < W.heap.size := by omega
  have h00 : F.w0.heap.size = w.heap.size := by rw [hw]
  have hlim := hrel.fr.lim
  let Cm : Com := fun b o => g.C b o \/ (b = U /\ o < 7)
  have hCB : ∀ o, ¬ Cm w.heap.size o := fun o h => by
    rcases h with h | h
    · have := hlim _ _ h; omega
    · omega
  have hCU : ∀ o, Cm U o ↔ o < 7 * 1 := fun o => by
    constructor
    · rintro (h | h)
      · have := hlim _ _ h; omega
      · omega
    · intro h; exact .inr ⟨rfl, by omega⟩
  have hgw : Gw w g.C W Cm := fun ad u hc hC => ⟨(hbel.cell (cell_lt hc)).trans hc, .inl hC⟩
  let gm : Gh := ⟨Cm, fun k => match tokEq k (.hd 0 0) with | true => some U | false => none, fun _ => (w.heap.size, 0), fun _ _ => []⟩
  have hk0 : ∀ k b', gm.blk k = some b' -> k = .hd 0 0 /\ b' = U := fun k b' hk => by
    have hk : (match tokEq k (.hd 0 0) with | true => some U | false => none) = some b' := hk
    cases hq : tokEq k (.hd 0 0) with
    | false => rw [hq] at hk; cases hk
    | true =>
      rw [hq] at hk
      injection hk with hk
      exact ⟨tokEq_iff.1 hq, hk.symm⟩
  have hrows := lim_row (w := W) (C := Cm) hwf hcs hlc htake
  have hA : AR F gm (F_conf_Print_st c0 c1 c2 c3 c4 c5 c6 us (limLines (seven c0 c1 c2 c3 c4 c5 c6))) a W := by
    have hnF : F.n = Tryz.f37.ntmps := hn _ Tryz.func37
    refine ⟨ha.trans hnF.symm, hdf, ?_⟩
    have L1 : ∀ k x, (F_conf_Print_st c0 c1 c2 c3 c4 c5 c6 us (limLines (seven c0 c1 c2 c3 c4 c5 c6))).L k = some x -> k = 1 /\ x = (0, [Leaf.d (.int .i64) c0, .d (.int .i64) c1, .d (.int .i64) c2, .d (.int .i64) c3, .d (.int .i64) c4, .d (.int .i64) c5, .d (.int .i64) c6, .d (.sl userT) us]) := fun k x hx => by
      match k, hx with
      | 0, hx => cases hx
      | 1, hx => injection hx with hx; exact ⟨rfl, hx.symm⟩
      | k + 2, hx => cases hx
    have hf2 := hrel.fr.below hbel
    refine ⟨⟨hf2.size, hf2.os, hf2.tape, hf2.output, hf2.old, hf2.shape, fun b o hb hx => ?_, fun b o h => .inl (hrel.fr.mono b o h), fun b o h => ?_⟩, fun i => ?_, fun k σ ls hL => ?_, fun k σ ls hL hσ => ?_, fun t b hk => (by cases hk), fun i t want ag ls hs => ?_, fun d hd => (by cases hd), fun i k hk => ?_, rfl, fun k k' b _ _ h1 h2 => (hk0 k b h1).1.trans (hk0 k' b h2).1.symm, fun k b j x _ hb hL => ?_, fun k b _ hb => ?_, fun k b _ hb => ?_, fun j j' x x' hj hj' _ => (L1 j x hj).1.trans (L1 j' x' hj').1.symm⟩
    · have := hrel.fr.com b o hb hx
      refine ⟨fun h => h.elim this.1 fun h => absurd h.1 (by omega), fun h => .inl (this.2 h)⟩
    · rcases h with h | h
      · exact Nat.lt_trans (hlim b o h) hBs
      · rw [h.1]; exact hUs
    · match i with
      | 0 => trivial
      | 1 => exact ht1
      | 2 => trivial
      | 3 =>
        rw [ht3, hvl]
        refine ⟨[_], ⟨_, [], rfl, ⟨⟨_, _, _, rfl, by rfl, hlc, hcm, fun i x hx => ?_⟩, fun _ => ⟨_, rfl, .inr ⟨U, cap, cur, by rfl, rfl, hUc, hlc, hcm, hcs, hrows, fun o => hCU o, fun o _ => .inl (by omega)⟩⟩⟩, rfl⟩, rfl⟩
        have hx : (limLines (seven c0 c1 c2 c3 c4 c5 c6))[i]? = some x := hx
        have hi : i < 7 := by
          have := (List.getElem?_eq_some_iff.1 hx).1
          simpa [limLines] using this
        have hr := hrows i x hx
        refine ⟨_, _, rfl, RepD.len hr, fun j u hj => ?_, hr⟩
        have hjl : j < 1 := by
          have h4 := (List.getElem?_eq_some_iff.1 hj).1
          have h5 : _ = 1 := RepD.len hr
          omega
        rw [List.getElem?_take, if_pos hjl, List.getElem?_drop] at hj
        rw [add_at]
        refine ⟨?_, .inr ⟨rfl, ?_⟩⟩
        · rw [cell_at hUc, <- Array.getElem?_toList, Nat.zero_add]; exact hj
        · show 0 + (i * 1 + j) < 7
          omega
      | i + 4 => trivial
    · obtain ⟨rfl, hx⟩ := L1 k _ hL
      injection hx with hx1 hx2
      subst hx1
      subst hx2
      refine ⟨_, (_, (0, 0)), hcell, ?_, ?_, fun o _ _ => ⟨hCB o, .inl (by show F.w0.heap.size <= w.heap.size; omega)⟩, fun o _ => .inr (Nat.zero_le _)⟩
      · exact Nat.le_refl _
      · exact ⟨[_], _, rfl, ⟨rfl, w0⟩, [_], _, rfl, ⟨rfl, w1⟩, [_], _, rfl, ⟨rfl, w2⟩, [_], _, rfl, ⟨rfl, w3⟩, [_], _, rfl, ⟨rfl, w4⟩, [_], _, rfl, ⟨rfl, w5⟩, [_], _, rfl, ⟨rfl, w6⟩, [_], [], rfl, RepD.gw hgw r8, rfl⟩
    · exact absurd (congrArg Prod.fst (L1 k _ hL).2) hσ
    · match i, hs with
      | 0, hs => cases hs
      | 1, hs => cases hs
      | 2, hs => cases hs
      | 3, hs => cases hs
      | i + 4, hs => cases hs
    · match i, hk with
      | 0, hk => cases hk
      | 1, hk =>
        have : k ∈ [1] := hk
        rw [List.mem_singleton] at this
        rw [this]; rfl
      | 2, hk => cases hk
      | 3, hk => cases hk
      | i + 4, hk => cases hk
    · rw [(hk0 k b hb).2]
      show w.heap.size ≠ U
      omega
    · rw [(hk0 k b hb).2]; exact hUs
    · rw [(hk0 k b hb).2]
      exact .inl (by omega)
  have hv := (congrFun (congrFun (congrFun (congrFun (congrFun (congrFun (congrFun (congrFun (congrFun F_conf_Print_text c0) c1) c2) c3) c4) c5) c6) us) (limLines (seven c0 c1 c2 c3 c4 c5 c6))).trans h9
  refine Code.wp_mono (fun e a' w' hp => ?_) (mid_sound (E := F_conf_Print_env) hE hb hc hT (hn _ Tryz.func37) hA hv)
  obtain ⟨he, hd, us', g', st', k1, k2, k3, k4, k5⟩ := hp
  rcases he with rfl | rfl
  · exact ⟨hd, _, k1, us', g', st', rfl, k2, k3, k4, fun k hk => absurd hk (by
      match k with
      | 0 => decide
      | k + 1 => exact fun h => by cases h)⟩
  · exact ⟨hd, _, k1, us', g', st', rfl, k2, k3, k4, fun k hk => absurd hk (by
      match k with
      | 0 => decide
      | k + 1 => exact fun h => by cases h)⟩
end Go.Proofs.YtgfmfgombmpodaaGreatDoor
namespace Go.Proofs.YtgfmfgombmpodaaGreatDoor
open Pv
set_option linter.unusedVariables false
noncomputable def F_wlvlaw18_Few_L4 (l1 : List (List Int)) (s : Int × Int) : Option (((Bool) ⊕ (Int)) ⊕ (Int × Int)) :=
 let i2 := s.1; let i3 := s.2
 cond ((decide (i3 < (l1.length : Int))) && (decide (i3 < 300)))
 ((getI l1 i3).bind fun s4 =>
 some (.inr ((IntKind.i64.wrap (i2 + (minI (s4.length : Int) 20001))), (IntKind.i64.wrap (i3 + 1)))))
 (some (.inl (.inr i2)))
noncomputable def F_wlvlaw18_Few_J2 (l1 : List (List Int)) (s : Int) : Option (Bool) :=
 let i5 := s
 some ((decide ((l1.length : Int) <= 300)) && (decide (i5 <= 20000)))
noncomputable def F_wlvlaw18_Few (l1 : List (List Int)) : Option (Bool) :=
 joinC (S := Int) (R := Bool)
 (loopC (S := Int × Int) (R := (Bool) ⊕ (Int)) (F_wlvlaw18_Few_L4 l1) (0, 0))
 (F_wlvlaw18_Few_J2 l1)
def F_wlvlaw18_Few_sig : Sig := ⟨[.v false [.d (.sl .str)]], [(false, [.d .bool])]⟩
def F_wlvlaw18_Few_ann : List (Nat × Ann) := [(2, ⟨3, [(3, false, [.d (.int .i64)])], [], (List.range' 4 19), []⟩), (4, ⟨5, [(3, false, [.d (.int .i64)]), (4, false, [.d (.int .i64)])], [], (List.range' 5 18), []⟩)]
noncomputable def F_wlvlaw18_Few_env : Env := ⟨Tryz.prog, [], []⟩
theorem F_wlvlaw18_Few_text : pvFn F_wlvlaw18_Few_env F_wlvlaw18_Few_ann Tryz.f26 F_wlvlaw18_Few_sig = F_wlvlaw18_Few := by kernel_rfl
noncomputable def F_wlvref_Texts_L6 (l1 : List (List Int)) (l2 : List (List Int)) (s : Int) : Option (((Bool) ⊕ (Unit)) ⊕ (Int)) :=
 let i3 := s
 cond (decide (i3 < (l1.length : Int)))
 ((getI l1 i3).bind fun s4 =>
 (getI l2 i3).bind fun s5 =>
 cond (!(s4 == s5))
 (some (.inl (.inl false)))
 (some (.inr (IntKind.i64.wrap (i3 + 1)))))
 (some (.inl (.inr ())))
noncomputable def F_wlvref_Texts_J4 (s : Unit) : Option (Bool) :=
 some true
noncomputable def F_wlvref_Texts (l1 : List (List Int)) (l2 : List (List Int)) : Option (Bool) :=
 cond ((l1.length : Int) != (l2.length : Int))
 (some false)
 (joinC (S := Unit) (R := Bool)
 (loopC (S := Int) (R := (Bool) ⊕ (Unit)) (F_wlvref_Texts_L6 l1 l2) 0)
 (F_wlvref_Texts_J4))
def F_wlvref_Texts_sig : Sig := ⟨[.v false [.d (.sl .str)], .v false [.d (.sl .str)]], [(false, [.d .bool])]⟩
def F_wlvref_Texts_ann : List (Nat × Ann) := [(4, ⟨5, [], [], ([4, 5] ++ List.range' 11 15), []⟩), (6, ⟨7, [(5, false, [.d (.int .i64)])], [], ([4] ++ List.range' 11 15), []⟩)]
noncomputable def F_wlvref_Texts_env : Env := ⟨Tryz.prog, [], []⟩
theorem F_wlvref_Texts_text : pvFn F_wlvref_Texts_env F_wlvref_Texts_ann Tryz.f36 F_wlvref_Texts_sig = F_wlvref_Texts := by kernel_rfl
noncomputable def F_wlvlaw18_ConfBack (l1 : List (List Int)) (i2 : Int) : Option (Bool) :=
 (F_wlvlaw18_first).bind fun b3 =>
 cond (!b3)
 (some false)
 ((F_wlvlaw18_Few l1).bind fun b4 =>
 cond (((!b4) || (decide (i2 < 0))) || (decide (i2 > (l1.length : Int))))
 ((F_wlvlaw18_first).bind fun b5 =>
 some b5)
 ((F_conf_Parse l1).bind fun x6 =>
 (cutI l1 0 i2).bind fun l7 =>
 chk (decide ((([] : List (List Int)).length + l7.length) * 16 <= 140737488355328) && decide (([] : List (List Int)).length + l7.length <= maxLen))
 (chk (decide (((([] : List (List Int)) ++ l7).length + ([([35, 32, 108, 105, 109, 105, 116] : List Int), ([] : List Int)] : List (List Int)).length) * 16 <= 140737488355328) && decide ((([] : List (List Int)) ++ l7).length + ([([35, 32, 108, 105, 109, 105, 116] : List Int), ([] : List Int)] : List (List Int)).length <= maxLen))
 ((cutI l1 i2 (l1.length : Int)).bind fun l8 =>
 chk (decide ((((([] : List (List Int)) ++ l7) ++ ([([35, 32, 108, 105, 109, 105, 116] : List Int), ([] : List Int)] : List (List Int))).length + l8.length) * 16 <= 140737488355328) && decide (((([] : List (List Int)) ++ l7) ++ ([([35, 32, 108, 105, 109, 105, 116] : List Int), ([] : List Int)] : List (List Int))).length + l8.length <= maxLen))
 ((F_conf_Parse (((([] : List (List Int)) ++ l7) ++ ([([35, 32, 108, 105, 109, 105, 116] : List Int), ([] : List Int)] : List (List Int))) ++ l8)).bind fun x9 =>
 cond (x6.2.2.2.2.2.2.2.2 != x9.2.2.2.2.2.2.2.2)
 (some false)
 ((F_conf_Same x6.1 x6.2.1 x6.2.2.1 x6.2.2.2.1 x6.2.2.2.2.1 x6.2.2.2.2.2.1 x6.2.2.2.2.2.2.1 x6.2.2.2.2.2.2.2.1 x9.1 x9.2.1 x9.2.2.1 x9.2.2.2.1 x9.2.2.2.2.1 x9.2.2.2.2.2.1 x9.2.2.2.2.2.2.1 x9.2.2.2.2.2.2.2.1).bind fun b10 =>
 cond (!b10)
 (some false)
 (cond (x6.2.2.2.2.2.2.2.2 != 0)
 ((F_wlvlaw18_first).bind fun b11 =>
 cond b11
 (cond ((x6.2.2.2.2.2.2.2.1.length : Int) == 0)
 (some (x6.1 == 0))
 (some false))
 (some false))
 ((F_conf_Print x6.1 x6.2.1 x6.2.2.1 x6.2.2.2.1 x6.2.2.2.2.1 x6.2.2.2.2.2.1 x6.2.2.2.2.2.2.1 x6.2.2.2.2.2.2.2.1).bind fun l12 =>
 (F_conf_Parse l12).bind fun x13 =>
 chk (decide ((([] : List (List Int)).length + l12.length) * 16 <= 140737488355328) && decide (([] : List (List Int)).length + l12.length <= maxLen))
 (chk (decide (((([] : List (List Int)) ++ l12).length + ([([108, 105, 109, 105, 116, 32, 108, 111, 103, 32, 53] : List Int)] : List (List Int)).length) * 16 <= 140737488355328) && decide ((([] : List (List Int)) ++ l12).length + ([([108, 105, 109, 105, 116, 32, 108, 111, 103, 32, 53] : List Int)] : List (List Int)).length <= maxLen))
 ((F_conf_Parse ((([] : List (List Int)) ++ l12) ++ ([([108, 105, 109, 105, 116, 32, 108, 111, 103, 32, 53] : List Int)] : List (List Int)))).bind fun x14 =>
 chk (decide ((([] : List (List Int)).length + l12.length) * 16 <= 140737488355328) && decide (([] : List (List Int)).length + l12.length <= maxLen))
 (chk (decide (((([] : List (List Int)) ++ l12).length + ([([97, 108, 108, 111, 119, 32, 110, 111, 98, 111, 100, 121, 46, 97, 116, 46, 97, 108, 108, 32, 42, 32, 42] : List Int)] : List (List Int)).length) * 16 <= 140737488355328) && decide ((([] : List (List Int)) ++ l12).length + ([([97, 108, 108, 111, 119, 32, 110, 111, 98, 111, 100, 121, 46, 97, 116, 46, 97, 108, 108, 32, 42, 32, 42] : List Int)] : List (List Int)).length <= maxLen))
 ((F_conf_Parse ((([] : List (List Int)) ++ l12) ++ ([([97, 108, 108, 111, 119, 32, 110, 111, 98, 111, 100, 121, 46, 97, 116, 46, 97, 108, 108, 32, 42, 32, 42] : List Int)] : List (List Int)))).bind fun x15 =>
 cond (x13.2.2.2.2.2.2.2.2 != 0)
 (some false)
 ((F_conf_Same x13.1 x13.2.1 x13.2.2.1 x13.2.2.2.1 x13.2.2.2.2.1 x13.2.2.2.2.2.1 x13.2.2.2.2.2.2.1 x13.2.2.2.2.2.2.2.1 x6.1 x6.2.1 x6.2.2.1 x6.2.2.2.1 x6.2.2.2.2.1 x6.2.2.2.2.2.1 x6.2.2.2.2.2.2.1 x6.2.2.2.2.2.2.2.1).bind fun b16 =>
 cond ((!b16) || (x14.2.2.2.2.2.2.2.2 != 2))
 (some false)
 ((F_conf_Find x6.1 x6.2.1 x6.2.2.1 x6.2.2.2.1 x6.2.2.2.2.1 x6.2.2.2.2.2.1 x6.2.2.2.2.2.2.1 x6.2.2.2.2.2.2.2.1 ([110, 111, 98, 111, 100, 121, 46, 97, 116, 46, 97, 108, 108] : List Int)).bind fun x17 =>
 cond ((!x17.2.2.2.2.2.2) && (x15.2.2.2.2.2.2.2.2 != 2))
 (some false)
 ((F_wlvlaw18_first).bind fun b18 =>
 cond (b18 && (decide ((l12.length : Int) >= 7)))
 ((F_conf_Print x13.1 x13.2.1 x13.2.2.1 x13.2.2.2.1 x13.2.2.2.2.1 x13.2.2.2.2.2.1 x13.2.2.2.2.2.2.1 x13.2.2.2.2.2.2.2.1).bind fun l19 =>
 (F_wlvref_Texts l19 l12).bind fun b20 =>
 some b20)
 (some false))))))))))))))))
def F_wlvlaw18_ConfBack_sig : Sig := ⟨[.v false [.d (.sl .str)], .v false [.d (.int .i64)]], [(false, [.d .bool])]⟩
def F_wlvlaw18_ConfBack_ann : List (Nat × Ann) := []
noncomputable def F_wlvlaw18_ConfBack_env : Env := ⟨Tryz.prog, [(25, ⟨F_wlvlaw18_first_sig, ⟨F_wlvlaw18_first⟩⟩), (26, ⟨F_wlvlaw18_Few_sig, ⟨F_wlvlaw18_Few⟩⟩), (27, ⟨F_conf_Parse_sig, ⟨F_conf_Parse⟩⟩), (31, ⟨F_conf_Same_sig, ⟨F_conf_Same⟩⟩), (34, ⟨F_conf_Find_sig, ⟨F_conf_Find⟩⟩), (36, ⟨F_wlvref_Texts_sig, ⟨F_wlvref_Texts⟩⟩), (37, ⟨F_conf_Print_sig, ⟨F_conf_Print⟩⟩)], []⟩
theorem F_wlvlaw18_ConfBack_text : pvFn F_wlvlaw18_ConfBack_env F_wlvlaw18_ConfBack_ann Tryz.f10 F_wlvlaw18_ConfBack_sig = F_wlvlaw18_ConfBack := by kernel_rfl
end Go.Proofs.YtgfmfgombmpodaaGreatDoor
namespace Go.Proofs.YtgfmfgombmpodaaGreatDoor
open Pv
theorem F_wlvlaw18_Few_sound {T : Tab} : SoundFn Tryz.prog T 26 F_wlvlaw18_Few_sig ⟨F_wlvlaw18_Few⟩ := by
 have h := fn_sound (T := T) (E := F_wlvlaw18_Few_env) (by unfold Env.ok; exact fun p h => by cases h) (A := F_wlvlaw18_Few_ann) (f := 26) (fn := Tryz.f26) (s := F_wlvlaw18_Few_sig) Tryz.func26
 rw [F_wlvlaw18_Few_text] at h
 exact h
theorem F_wlvref_Texts_sound {T : Tab} : SoundFn Tryz.prog T 36 F_wlvref_Texts_sig ⟨F_wlvref_Texts⟩ := by
 have h := fn_sound (T := T) (E := F_wlvref_Texts_env) (by unfold Env.ok; exact fun p h => by cases h) (A := F_wlvref_Texts_ann) (f := 36) (fn := Tryz.f36) (s := F_wlvref_Texts_sig) Tryz.func36
 rw [F_wlvref_Texts_text] at h
 exact h
theorem F_wlvlaw18_ConfBack_sound {T : Tab} (h_maxlen : has_maxlen T) (h_pow10 : tab_pow10 ∈ T) (h_errs : has_errs T) (h_db : tab_db ∈ T) : SoundFn Tryz.prog T 10 F_wlvlaw18_ConfBack_sig ⟨F_wlvlaw18_ConfBack⟩ := by
 have h := fn_sound (T := T) (E := F_wlvlaw18_ConfBack_env) (by unfold Env.ok; exact List.forall_mem_cons.2 ⟨F_wlvlaw18_first_sound h_maxlen h_pow10 h_errs, List.forall_mem_cons.2 ⟨F_wlvlaw18_Few_sound, List.forall_mem_cons.2 ⟨F_conf_Parse_sound h_maxlen h_pow10 h_errs, List.forall_mem_cons.2 ⟨F_conf_Same_sound, List.forall_mem_cons.2 ⟨F_conf_Find_sound, List.forall_mem_cons.2 ⟨F_wlvref_Texts_sound, List.forall_mem_cons.2 ⟨F_conf_Print_sound h_pow10 h_db, fun p h => by cases h⟩⟩⟩⟩⟩⟩⟩) (A := F_wlvlaw18_ConfBack_ann) (f := 10) (fn := Tryz.f10) (s := F_wlvlaw18_ConfBack_sig) Tryz.func10
 rw [F_wlvlaw18_ConfBack_text] at h
 exact h
end Go.Proofs.YtgfmfgombmpodaaGreatDoor

namespace Go.Proofs.YtgfmfgombmpodaaGreatDoor
open Pv
set_option linter.unusedVariables false
def isDig (c : Int) : Bool := decide (48 <= c) && decide (c <= 57)
def valI (s : List Int) : Int := s.foldl (fun a c => a * 10 + (c - 48)) 0
def canonB (s : List Int) : Bool := s.all isDig && match s with
 | [] => false
 | [_] => true
 | c :: _ => c != 48
theorem valI_snoc (s : List Int) (c : Int) : valI (s ++ [c]) = valI s * 10 + (c - 48) := by
 unfold valI
 rw [List.foldl_append]; rfl
theorem dig_of {c : Int} (h : isDig c = true) : 48 <= c /\ c <= 57 := by
 simpa [isDig] using h
theorem valI_nn : ∀ (k : Nat) (s : List Int), s.length = k -> s.all isDig = true -> 0 <= valI s := fun k => by
 induction k with
 | zero => intro s h _; rw [List.length_eq_zero_iff.1 h]; decide
 | succ k ih =>
  intro s h hd
  rcases List.eq_nil_or_concat s with rfl | ⟨s', c, rfl⟩
  ·decide
  ·rw [List.concat_eq_append] at h hd ⊢
   rw [List.all_append, Bool.and_eq_true] at hd
   have hc := dig_of (c := c) (by simpa using hd.2)
   have := ih s' (by simp at h; omega) hd.1
   rw [valI_snoc]
   omega
def dgs (n : Nat) : List Int := (Lib.decDigits n).map byteI
theorem dgs_one {n : Nat} (h : n < 10) : dgs n = [48 + (n : Int)] := by
 unfold dgs
 rw [Lib.decDigits_one h]
 show [byteI (UInt8.ofNat (48 + n))] = _
 unfold byteI
 rw [UInt8.toNat_ofNat', Nat.mod_eq_of_lt (by omega)]
 congr 1
theorem dgs_more {n : Nat} (h : ¬ n < 10) : dgs n = dgs (n / 10) ++ [48 + ((n % 10 : Nat) : Int)] := by
 unfold dgs
 rw [Lib.decDigits, dif_neg h, List.map_append]
 congr 1
 show [byteI (UInt8.ofNat (48 + n % 10))] = _
 unfold byteI
 rw [UInt8.toNat_ofNat', Nat.mod_eq_of_lt (by omega)]
 congr 1
theorem itoa_dgs (n : Nat) : itoaI (n : Int) = dgs n := by
 unfold itoaI dgs
 rw [Lib.itoa_nonneg]
theorem dgs_spec : ∀ (k n : Nat), n < k -> (dgs n).all isDig = true /\ valI (dgs n) = n /\ dgs n ≠ [] /\ (1 <= n -> (dgs n).head? ≠ some 48) := fun k => by
 induction k with
 | zero => intro n h; omega
 | succ k ih =>
  intro n h
  by_cases h10 : n < 10
  ·rw [dgs_one h10]
   refine ⟨by simp [isDig]; omega, by simp [valI]; omega, by simp, fun h1 => ?_⟩
   show some (48 + (n : Int)) ≠ some 48
   intro e
   injection e with e
   omega
  ·obtain ⟨a, b, c, d⟩ := ih (n / 10) (by omega)
   rw [dgs_more h10]
   refine ⟨?_, ?_, by simp, fun _ => ?_⟩
   ·rw [List.all_append, a]
    simp [isDig]
    omega
   ·rw [valI_snoc, b]
    omega
   ·cases hq : dgs (n / 10) with
    | nil => exact absurd hq c
    | cons x r =>
     rw [hq] at d
     exact d (by omega)
theorem canon_dgs (n : Nat) : canonB (dgs n) = true := by
 obtain ⟨a, b, c, d⟩ := dgs_spec (n + 1) n (by omega)
 unfold canonB
 rw [a, Bool.true_and]
 by_cases h10 : n < 10
 ·rw [dgs_one h10]
 ·have hd := d (by omega)
  have hl : 2 <= (dgs n).length := by
   rw [dgs_more h10, List.length_append]
   have : 0 < (dgs (n / 10)).length := List.length_pos_iff.2 (dgs_spec (n / 10 + 1) (n / 10) (by omega)).2.2.1
   simp
   omega
  match hs : dgs n, hd, hl with
  | x :: y :: r, hd, _ =>
   show (x != 48) = true
   exact bne_iff_ne.2 fun e => hd (by rw [e]; rfl)
theorem val_pos : ∀ (k : Nat) (s : List Int), s.length = k -> s.all isDig = true -> (∃ c r, s = c :: r /\ c ≠ 48) -> 1 <= valI s := fun k => by
 induction k with
 | zero => intro s h _ ⟨c, r, e, _⟩; subst e; simp at h
 | succ k ih =>
  intro s h hd ⟨c, r, e, hc⟩
  rcases List.eq_nil_or_concat s with rfl | ⟨s', x, e'⟩
  ·cases e
  ·rw [List.concat_eq_append] at e'
   subst e'
   rw [List.all_append, Bool.and_eq_true] at hd
   have hx := dig_of (c := x) (by simpa using hd.2)
   rw [valI_snoc]
   cases s' with
   | nil =>
    have : x = c := by simpa using congrArg List.head? e
    subst this
    show 1 <= (0 : Int) * 10 + (x - 48)
    omega
   | cons c' r' =>
    have : c' = c := by simpa using congrArg List.head? e
    subst this
    have := ih (c' :: r') (by simp at h ⊢; omega) hd.1 ⟨c', r', rfl, hc⟩
    omega
theorem canon_eq : ∀ (k : Nat) (s : List Int), s.length = k -> canonB s = true -> ∃ n : Nat, s = dgs n /\ valI s = n := fun k => by
 induction k with
 | zero => intro s h hc; rw [List.length_eq_zero_iff.1 h] at hc; cases hc
 | succ k ih =>
  intro s h hc
  have hd : s.all isDig = true := by unfold canonB at hc; exact (Bool.and_eq_true _ _ ▸ hc).1
  rcases List.eq_nil_or_concat s with rfl | ⟨s', x, e'⟩
  ·cases hc
  ·rw [List.concat_eq_append] at e'
   subst e'
   have hd' := hd
   rw [List.all_append, Bool.and_eq_true] at hd'
   have hx := dig_of (c := x) (by simpa using hd'.2)
   cases s' with
   | nil =>
    refine ⟨(x - 48).toNat, ?_, ?_⟩
    ·rw [dgs_one (by omega)]
     show [x] = _
     congr 1
     omega
    ·show (0 : Int) * 10 + (x - 48) = _
     omega
   | cons c' r' =>
    have hne : c' ≠ 48 := by
     unfold canonB at hc
     rw [hd, Bool.true_and] at hc
     cases r' with
     | nil => exact bne_iff_ne.1 hc
     | cons => exact bne_iff_ne.1 hc
    have hcan : canonB (c' :: r') = true := by
     unfold canonB
     rw [hd'.1, Bool.true_and]
     cases r' with
     | nil => rfl
     | cons => exact bne_iff_ne.2 hne
    obtain ⟨n, h1, h2⟩ := ih (c' :: r') (by simp at h ⊢; omega) hcan
    have hp := val_pos _ (c' :: r') rfl hd'.1 ⟨c', r', rfl, hne⟩
    refine ⟨n * 10 + (x - 48).toNat, ?_, ?_⟩
    ·rw [dgs_more (by omega), show (n * 10 + (x - 48).toNat) / 10 = n by omega, show (n * 10 + (x - 48).toNat) % 10 = (x - 48).toNat by omega, <- h1]
     congr 2
     omega
    ·rw [valI_snoc, h2]
     omega
theorem parse_snoc (c : UInt8) : ∀ (l : List UInt8) (acc m : Nat), Lib.parseUint10 acc l = .ok m -> Lib.parseUint10 acc (l ++ [c]) = Lib.parseUint10 m [c]
 | [], acc, m, h => by
  have : acc = m := by
   have h : Lib.NumEnd.ok acc = .ok m := h
   injection h
  subst this; rfl
 | x :: l, acc, m, h => by
  rw [List.cons_append]
  unfold Lib.parseUint10 at h ⊢
  split at h
  ·rename_i h1
   rw [if_pos h1]
   split at h
   ·cases h
   ·rename_i h2
    rw [if_neg h2]
    split at h
    ·cases h
    ·rename_i h3
     rw [if_neg h3]
     rw [parse_snoc c l _ m h]
     rfl
  ·cases h
theorem parse_dec : ∀ (k n : Nat), n < k -> n < 18446744073709551616 -> Lib.parseUint10 0 (Lib.decDigits n) = .ok n := fun k => by
 induction k with
 | zero => intro n h; omega
 | succ k ih =>
  intro n h hn
  have hc : (UInt8.ofNat (48 + n % 10)).toNat = 48 + n % 10 := by rw [UInt8.toNat_ofNat', Nat.mod_eq_of_lt (by omega)]
  have step : ∀ acc, acc = n / 10 -> Lib.parseUint10 acc [UInt8.ofNat (48 + n % 10)] = .ok n := fun acc e => by
   unfold Lib.parseUint10
   rw [hc, if_pos (by omega), if_neg (by omega), if_neg (by omega)]
   show Lib.NumEnd.ok _ = _
   congr 1
   omega
  rw [Lib.decDigits]
  by_cases h10 : n < 10
  ·rw [dif_pos h10]
   have := step 0 (by omega)
   rwa [Nat.mod_eq_of_lt h10] at this
  ·rw [dif_neg h10, parse_snoc _ _ _ _ (ih (n / 10) (by omega) (by omega))]
   exact step _ rfl
theorem dec_cons (n : Nat) : ∃ c r, Lib.decDigits n = c :: r /\ c.toNat ≠ 43 /\ c.toNat ≠ 45 := by
 obtain ⟨a, b, c, d⟩ := dgs_spec (n + 1) n (by omega)
 cases h : Lib.decDigits n with
 | nil => exact absurd (by unfold dgs; rw [h]; rfl) c
 | cons x r =>
  refine ⟨x, r, rfl, ?_⟩
  unfold dgs at a
  rw [h, List.map_cons, List.all_cons, Bool.and_eq_true] at a
  have := dig_of a.1
  unfold byteI at this
  omega
theorem toB_dgs (n : Nat) : toB (dgs n) = Lib.decDigits n := by
 unfold toB dgs
 rw [List.map_map]
 conv => rhs; rw [<- List.map_id (Lib.decDigits n)]
 apply List.map_congr_left
 intro b _
 show (((b.toNat : Nat) : Int).toNat).toUInt8 = b
 rw [Int.toNat_natCast, Nat.toUInt8_eq, UInt8.ofNat_toNat]
theorem atoi_dgs (n : Nat) (h : n < 9223372036854775808) : atoiP (dgs n) = ((n : Int), false) := by
 unfold atoiP
 rw [toB_dgs]
 obtain ⟨c, r, h1, h2, h3⟩ := dec_cons n
 have hp := parse_dec (n + 1) n (by omega) (by omega)
 have : Lib.atoiAll (Lib.decDigits n) = .ok (n : Int) := by
  rw [h1, Lib.atoiAll_plain c r h2 h3, <- h1]
  unfold Lib.parseMag
  rw [if_neg (by rw [h1]; simp), hp]
  unfold Lib.signless
  simp
  omega
 rw [this]
theorem decimal_law (s : List Int) (most : Int) (hm : most <= 9223372036854775807) :
  (canonB s = true /\ valI s <= most -> (atoiP s).2 = false /\ (atoiP s).1 = valI s /\ itoaI (valI s) = s) /\
  ((atoiP s).2 = false -> 0 <= (atoiP s).1 -> (atoiP s).1 <= most -> itoaI (atoiP s).1 = s -> canonB s = true /\ valI s = (atoiP s).1) := by
 refine ⟨fun ⟨hc, hv⟩ => ?_, fun h1 h2 h3 h4 => ?_⟩
 ·obtain ⟨n, e1, e2⟩ := canon_eq _ s rfl hc
  rw [e2] at hv ⊢
  rw [itoa_dgs, e1, atoi_dgs n (by omega)]
  exact ⟨rfl, rfl, rfl⟩
 ·obtain ⟨n, hn⟩ : ∃ n : Nat, (atoiP s).1 = n := ⟨(atoiP s).1.toNat, by omega⟩
  rw [hn, itoa_dgs] at h4
  rw [hn, <- h4]
  exact ⟨canon_dgs n, (dgs_spec (n + 1) n (by omega)).2.1⟩
theorem dgs_len : ∀ (k n : Nat), n < 10 ^ (k + 1) -> (dgs n).length <= k + 1 := fun k => by
 induction k with
 | zero => intro n h; rw [dgs_one (by omega)]; simp
 | succ k ih =>
  intro n h
  by_cases h10 : n < 10
  ·rw [dgs_one h10]; simp
  ·rw [dgs_more h10, List.length_append]
   have := ih (n / 10) (by
    rw [Nat.pow_succ] at h
    omega)
   simp
   omega
end Go.Proofs.YtgfmfgombmpodaaGreatDoor
namespace Go.Proofs.YtgfmfgombmpodaaGreatDoor
namespace Pv
set_option linter.unusedVariables false
section
variable {S R T : Type} {body : S -> Option (R ⊕ S)} {s s' : S} {r r' : R}
theorem iter_uniq : ∀ {n m : Nat} {s : S}, iterC body n s = some r -> iterC body m s = some r' -> r = r'
 | 0, _, _, h, _ => by cases h
 | _ + 1, 0, _, _, h => by cases h
 | n + 1, m + 1, s, h, k => by
  unfold iterC at h k
  split at h
  ·cases h
  ·rename_i x hx
   rw [hx] at k
   injection h with h; injection k with k
   exact h.symm.trans k
  ·rename_i x hx
   rw [hx] at k
   exact iter_uniq h k
theorem loop_of_iter {n : Nat} (h : iterC body n s = some r) : loopC body s = some r := by
 unfold loopC
 have hex : ∃ r n, iterC body n s = some r := ⟨r, n, h⟩
 rw [dif_pos hex]
 obtain ⟨m, hm⟩ := hex.choose_spec
 rw [iter_uniq hm h]
theorem iter_of_loop' (h : loopC body s = some r) : ∃ n, iterC body n s = some r := by
 unfold loopC at h
 split at h
 ·rename_i hex
  injection h with h
  obtain ⟨n, hn⟩ := hex.choose_spec
  exact ⟨n, by rw [hn, h]⟩
 ·cases h
theorem loop_inl (h : body s = some (.inl r)) : loopC body s = some r := loop_of_iter (n := 1) (by unfold iterC; rw [h])
theorem loop_inr (h : body s = some (.inr s')) (k : loopC body s' = some r) : loopC body s = some r := by
 obtain ⟨n, hn⟩ := iter_of_loop' k
 exact loop_of_iter (n := n + 1) (by unfold iterC; rw [h]; exact hn)
theorem loop_inv {I : S -> Prop} {m : S -> Nat} {Q : R -> Prop} (h : ∀ s, I s -> (∃ r, body s = some (.inl r) /\ Q r) \/ ∃ s', body s = some (.inr s') /\ I s' /\ m s' < m s) (s : S) (hs : I s) : ∃ r, loopC body s = some r /\ Q r := by
 have key : ∀ n s, m s < n -> I s -> ∃ r, loopC body s = some r /\ Q r := fun n => by
  induction n with
  | zero => intro s hn; omega
  | succ n ih =>
   intro s hn hs
   rcases h s hs with ⟨r, h1, h2⟩ | ⟨s', h1, h2, h3⟩
   ·exact ⟨r, loop_inl h1, h2⟩
   ·obtain ⟨r, k1, k2⟩ := ih s' (by omega) h2
    exact ⟨r, loop_inr h1 k1, k2⟩
 exact key _ s (Nat.lt_succ_self _) hs
theorem join_inl {A : Option (R ⊕ S)} {B : S -> Option R} (h : A = some (.inl r)) : joinC A B = some r := by rw [h]; rfl
theorem join_inr {A : Option (R ⊕ S)} {B : S -> Option R} (h : A = some (.inr s)) : joinC A B = B s := by rw [h]; rfl
theorem getI_of {α : Type} {l : List α} {j : Int} (h0 : 0 <= j) (h1 : j < l.length) : ∃ x, getI l j = some x /\ l[j.toNat]? = some x := by
 have hlt : j.toNat < l.length := by omega
 exact ⟨l[j.toNat], by unfold getI; rw [decide_eq_true h0]; simp [hlt], by simp [hlt]⟩
theorem wrap_in {x : Int} (h0 : -9223372036854775808 <= x) (h1 : x <= 9223372036854775807) : IntKind.i64.wrap x = x := by
 show (if (true && decide (x % 18446744073709551616 >= 9223372036854775808)) = true then x % 18446744073709551616 - 18446744073709551616 else x % 18446744073709551616) = x
 simp only [Bool.true_and, decide_eq_true_eq]
 split <;> omega
end
end Pv
end Go.Proofs.YtgfmfgombmpodaaGreatDoor
namespace Go.Proofs.YtgfmfgombmpodaaGreatDoor
open Pv
set_option linter.unusedVariables false
theorem cutI_nat {α : Type} {s : List α} {a b : Nat} (h1 : a <= b) (h2 : b <= s.length) : cutI s (a : Int) (b : Int) = some ((s.take b).drop a) := by
 unfold cutI
 rw [decide_eq_true (show (0 : Int) <= (a : Int) by omega), decide_eq_true (show (a : Int) <= (b : Int) by omega), decide_eq_true (show (b : Int) <= (s.length : Int) by omega)]
 rfl
theorem getI_nat {α : Type} {s : List α} {i : Nat} {x : α} (h : s[i]? = some x) : getI s (i : Int) = some x := by
 unfold getI
 rw [decide_eq_true (by omega), cond_true, Int.toNat_natCast, h]
theorem chk16 {a b : Nat} (h : a + b <= 10000000) : (decide ((a + b) * 16 <= 140737488355328) && decide (a + b <= maxLen)) = true := by
 rw [decide_eq_true (by omega), decide_eq_true (by have : maxLen = 9223372036854775807 := rfl; omega)]; rfl
theorem chk1 {a b : Nat} (h : a + b <= 10000000) : (decide ((a + b) * 1 <= 140737488355328) && decide (a + b <= maxLen)) = true := by
 rw [decide_eq_true (by omega), decide_eq_true (by have : maxLen = 9223372036854775807 := rfl; omega)]; rfl
theorem SplitL_eq (s : List Int) (c : Int) (hs : s.length <= 1000000) : F_strings_Split s [c] = some (splitI s c) := by
 show cond (Nat.ble s.length 4000000000) (some (splitI s c)) none = _
 rw [Nat.ble_eq_true_of_le (by omega)]; rfl
theorem decimal_eq (s : List Int) (most : Int) (hs : s.length <= 1000000) (hm : most <= 9223372036854775807) :
  ∃ x, F_addr_decimal s most = some (x, canonB s && decide (valI s <= most)) /\ (canonB s = true -> valI s <= most -> x = valI s) := by
 obtain ⟨k1, k2⟩ := decimal_law s most hm
 unfold F_addr_decimal
 have ha : F_strconv_Atoi s = some (atoiP s) := by
  unfold F_strconv_Atoi
  rw [Nat.ble_eq_true_of_le (by omega)]; rfl
 rw [ha, Option.bind_some]
 refine ⟨(atoiP s).1, ?_, fun h1 h2 => (k1 ⟨h1, h2⟩).2.1⟩
 cases hc : (canonB s && decide (valI s <= most)) with
 | true =>
  rw [Bool.and_eq_true, decide_eq_true_iff] at hc
  obtain ⟨q1, q2, q3⟩ := k1 hc
  have hp := valI_nn _ s rfl (by have := hc.1; unfold canonB at this; exact (Bool.and_eq_true _ _ ▸ this).1)
  rw [q1, q2, decide_eq_true (show valI s >= 0 from hp), decide_eq_true hc.2]
  rw [show (notB false && true && true) = true from rfl, cond_true]
  unfold F_strconv_Itoa
  rw [Option.bind_some, q3, beq_self_eq_true]
 | false =>
  cases hq : (notB (atoiP s).2 && decide ((atoiP s).1 >= 0)) && decide ((atoiP s).1 <= most) with
  | false => rfl
  | true =>
   rw [cond_true]
   unfold F_strconv_Itoa
   rw [Option.bind_some]
   have hq' := hq
   rw [Bool.and_eq_true, Bool.and_eq_true, decide_eq_true_iff, decide_eq_true_iff] at hq'
   cases he : itoaI (atoiP s).1 == s with
   | false => rfl
   | true =>
    exfalso
    obtain ⟨r1, r2⟩ := k2 (by
     have := hq'.1.1
     cases hb : (atoiP s).2 with
     | false => rfl
     | true => rw [hb] at this; cases this) hq'.1.2 hq'.2 (beq_iff_eq.1 he)
    rw [r1, r2, decide_eq_true hq'.2] at hc
    cases hc
theorem u8_in {x : Int} (h0 : 0 <= x) (h1 : x <= 255) : IntKind.u8.wrap x = x := by
 show (if (false && decide (x % 256 >= 128)) = true then x % 256 - 256 else x % 256) = x
 simp
 omega
def byteB (w : List Int) : Bool := canonB w && decide (valI w <= 255)
def fourR (s : List Int) : List Int × Bool := cond (decide ((splitI s 46).length = 4) && (splitI s 46).all byteB) ((splitI s 46).map valI, true) ([], false)
theorem byte_val {w : List Int} (h : byteB w = true) : 0 <= valI w /\ valI w <= 255 := by
 unfold byteB at h
 rw [Bool.and_eq_true, decide_eq_true_iff] at h
 have := h.1
 unfold canonB at this
 exact ⟨valI_nn _ w rfl (Bool.and_eq_true _ _ ▸ this).1, h.2⟩
theorem split_mem_len {s w : List Int} {c : Int} (h : w ∈ splitI s c) : w.length <= s.length := by
 have h1 := splitI_sum s c
 have h2 : w.length <= ((splitI s c).map List.length).sum := mem_sum (List.mem_map.2 ⟨w, h, rfl⟩)
 have h3 : 0 < (splitI s c).length := List.length_pos_iff.2 (splitI_ne s c)
 omega
theorem all_snoc {l : List (List Int)} {i : Nat} {w : List Int} (h : l[i]? = some w) (ha : (l.take i).all byteB = true) (hw : byteB w = true) : (l.take (i + 1)).all byteB = true := by
 rw [List.take_add_one, h, List.all_append, ha]
 simp [hw]
theorem all_bad {l : List (List Int)} {i : Nat} {w : List Int} (h : l[i]? = some w) (hw : byteB w = false) : l.all byteB = false := by
 rw [List.all_eq_false]
 exact ⟨w, List.mem_of_getElem? h, by rw [hw]; decide⟩
theorem map_snoc {l : List (List Int)} {i : Nat} {w : List Int} (h : l[i]? = some w) : (l.take (i + 1)).map valI = (l.take i).map valI ++ [valI w] := by
 rw [List.take_add_one, h, List.map_append]; rfl
theorem dotted_loop (l : List (List Int)) (hl : l.length = 4) (hw : ∀ w ∈ l, w.length <= 1000000) : loopC (F_addr_dotted_L8 l) (([] : List Int), l, 0) = some (cond (l.all byteB) (.inr (l.map valI)) (.inl ([], false))) := by
 obtain ⟨r, h1, h2⟩ := loop_inv (body := F_addr_dotted_L8 l) (I := fun st => ∃ i : Nat, i <= 4 /\ (l.take i).all byteB = true /\ st = ((l.take i).map valI, l, (i : Int))) (m := fun st => 4 - st.2.2.toNat) (Q := fun q => q = cond (l.all byteB) (.inr (l.map valI)) (.inl ([], false))) (fun st ⟨i, hi, hd, e⟩ => by
  subst e
  unfold F_addr_dotted_L8
  dsimp only
  by_cases hlt : i < 4
  ·have hg := List.getElem?_eq_getElem (l := l) (i := i) (by omega)
   obtain ⟨x, hx1, hx2⟩ := decimal_eq l[i] 255 (hw _ (List.getElem_mem _)) (by omega)
   rw [show (canonB l[i] && decide (valI l[i] <= 255)) = byteB l[i] from rfl] at hx1
   rw [decide_eq_true (by omega), cond_true, getI_nat hg, Option.bind_some, hx1, Option.bind_some]
   cases hb : byteB l[i] with
   | false =>
    rw [all_bad hg hb]
    exact .inl ⟨_, rfl, rfl⟩
   | true =>
    have hv := byte_val hb
    have hxv : x = valI l[i] := by
     unfold byteB at hb
     rw [Bool.and_eq_true, decide_eq_true_iff] at hb
     exact hx2 hb.1 hb.2
    subst hxv
    unfold chk
    rw [Bool.not_true, cond_false, chk1 (by rw [List.length_map, List.length_take]; show _ + 1 <= _; omega), cond_true, u8_in hv.1 hv.2, wrap_in (by omega) (by omega)]
    refine .inr ⟨_, rfl, ⟨i + 1, by omega, all_snoc hg hd hb, by rw [map_snoc hg]; rfl⟩, ?_⟩
    show 4 - ((i : Int) + 1).toNat < 4 - (i : Int).toNat
    omega
  ·rw [decide_eq_false (by omega), cond_false]
   rw [List.take_of_length_le (by omega)] at hd
   refine .inl ⟨_, rfl, ?_⟩
   rw [hd, cond_true, List.take_of_length_le (by omega)]) (([] : List Int), l, 0) ⟨0, by omega, by simp, by simp⟩
 rw [h1, h2]
theorem dotted_eq (s : List Int) (hs : s.length <= 1000000) : F_addr_dotted s = some (fourR s) := by
 unfold F_addr_dotted fourR
 rw [SplitL_eq s 46 hs, Option.bind_some]
 by_cases h4 : (splitI s 46).length = 4
 ·rw [show (((splitI s 46).length : Int) != 4) = false by rw [h4]; rfl, cond_false, decide_eq_true h4, Bool.true_and, dotted_loop _ h4 fun w hw => by have := split_mem_len hw; omega]
  cases (splitI s 46).all byteB <;> rfl
 ·rw [show (((splitI s 46).length : Int) != 4) = true from bne_iff_ne.2 (by omega), cond_true, decide_eq_false h4]
  rfl
theorem cond_ex {b : Bool} {x y : Option Int} (hx : ∃ d, x = some d) (hy : ∃ d, y = some d) : ∃ d, cond b x y = some d := by
 cases b
 ·exact hy
 ·exact hx
theorem some_ex (x : Int) : ∃ d, some x = some d := ⟨x, rfl⟩
noncomputable def sg (c : Int) : Int := (F_host_sign c).getD 0
theorem sign_eq (c : Int) : F_host_sign c = some (sg c) := by
 have : ∃ d, F_host_sign c = some d := by
  unfold F_host_sign
  repeat' (first | with_reducible exact some_ex _ | with_reducible apply cond_ex)
 obtain ⟨d, hd⟩ := this
 unfold sg
 rw [hd]; rfl
def endsB (out : List Int) (n : Nat) : Bool := n == 0 || out.getLast? == some 45
noncomputable def nameP : List Int -> Nat -> List Int -> Option (List Int)
 | out, n, [] => cond (endsB out n) none (some out)
 | out, n, c :: r => cond (c == 46) (cond (endsB out n) none (nameP (out ++ [46]) 0 r)) (cond (sg c == 0 || n == 63 || (sg c == 45 && n == 0)) none (nameP (out ++ [sg c]) (n + 1) r))
def resN : Option (List Int) -> List Int × Int
 | none => ([], 2)
 | some b => (b, 0)
noncomputable def nameR (s : List Int) : List Int × Int := resN (cond (decide (253 < s.length)) none (nameP [] 0 s))
theorem name_wrong (s : List Int) (x : List Int × Int × Int) : loopC (F_host_Name_G1 s) (0, x) = some ([], 2) := loop_inl rfl
theorem last_of {out : List Int} (h : out ≠ []) (hl : out.length <= 1000) : ∃ x, getI out (IntKind.i64.wrap ((out.length : Int) - 1)) = some x /\ out.getLast? = some x := by
 have : 0 < out.length := List.length_pos_iff.2 h
 rw [wrap_in (by omega) (by omega)]
 obtain ⟨x, h1, h2⟩ := getI_of (l := out) (j := (out.length : Int) - 1) (by omega) (by omega)
 refine ⟨x, h1, ?_⟩
 rw [List.getLast?_eq_getElem?, <- h2]
 congr 1
 omega
theorem chk_out {a b : Nat} (h : a + b <= 1000000) : (decide ((a + b) * 1 <= 140737488355328) && decide (a + b <= maxLen)) = true := by
 rw [decide_eq_true (by omega), decide_eq_true (by have : maxLen = 9223372036854775807 := rfl; omega)]; rfl
theorem beq_nat (a b : Nat) : ((a : Int) == (b : Int)) = (a == b) := by
 by_cases h : a = b
 ·subst h; simp
 ·rw [beq_eq_false_iff_ne.2 h, beq_eq_false_iff_ne.2 (by omega)]
theorem name_end {s out : List Int} {i n : Nat} (hn : n = 0 \/ out ≠ []) (ho : out.length <= 253) :
  (endsB out n = true -> loopC (F_host_Name_G1 s) (1, (out, (i : Int), (n : Int))) = some ([], 2)) /\
  (endsB out n = false -> (i = s.length -> loopC (F_host_Name_G1 s) (1, (out, (i : Int), (n : Int))) = some (out, 0)) /\ (i < s.length -> i <= 253 -> ∀ r, loopC (F_host_Name_G1 s) (2, (out ++ [46], ((i + 1 : Nat) : Int), ((0 : Nat) : Int))) = some r -> loopC (F_host_Name_G1 s) (1, (out, (i : Int), (n : Int))) = some r)) := by
 have hG : F_host_Name_G1 s (1, (out, (i : Int), (n : Int))) = F_host_Name_G1_1 s (out, (i : Int), (n : Int)) := rfl
 by_cases h0 : n = 0
 ·subst h0
  refine ⟨fun _ => loop_inr (s' := (0, (out, (i : Int), 0))) ?_ (name_wrong s _), fun h => by simp [endsB] at h⟩
  rw [hG]; rfl
 ·obtain ⟨x, h1, h2⟩ := last_of (hn.resolve_left h0) (by omega)
  have hz : ((n : Int) == 0) = false := beq_eq_false_iff_ne.2 (by omega)
  have hz' : (n == 0) = false := beq_eq_false_iff_ne.2 h0
  by_cases hx : x = 45
  ·subst hx
   refine ⟨fun _ => loop_inr (s' := (0, (out, (i : Int), (n : Int)))) ?_ (name_wrong s _), fun h => by simp [endsB, h2] at h⟩
   rw [hG]
   unfold F_host_Name_G1_1
   dsimp only
   rw [hz, cond_false, h1]; rfl
  ·have hx' : (x == 45) = false := beq_eq_false_iff_ne.2 hx
   refine ⟨fun h => ?_, fun _ => ⟨fun hi => loop_inl ?_, fun hi hi2 r hr => loop_inr ?_ hr⟩⟩
   ·unfold endsB at h
    rw [hz', h2] at h
    simp [hx] at h
   ·rw [hG]
    unfold F_host_Name_G1_1
    dsimp only
    rw [hz, cond_false, h1, Option.bind_some, hx', cond_false, beq_nat, hi, beq_self_eq_true, cond_true]
   ·rw [hG]
    unfold F_host_Name_G1_1
    dsimp only
    rw [hz, cond_false, h1, Option.bind_some, hx', cond_false, beq_nat, beq_eq_false_iff_ne.2 (by omega), cond_false]
    unfold chk
    rw [chk_out (by show out.length + 1 <= _; omega), cond_true, wrap_in (by omega) (by omega)]
    rfl
theorem name_loop (s : List Int) (hs : s.length <= 253) : ∀ (r out : List Int) (n i : Nat), s.drop i = r -> i <= s.length -> (n = 0 \/ out ≠ []) -> out.length <= i -> n <= 63 -> loopC (F_host_Name_G1 s) (2, (out, (i : Int), (n : Int))) = some (resN (nameP out n r))
 | [], out, n, i, hd, hi, hn, ho, hn2 => by
  have hl : i = s.length := by
   have := congrArg List.length hd
   simp at this
   omega
  have hG : F_host_Name_G1 s (2, (out, (i : Int), (n : Int))) = some (.inr (1, (out, (i : Int), (n : Int)))) := by
   show F_host_Name_G1_2 s (out, (i : Int), (n : Int)) = _
   unfold F_host_Name_G1_2
   dsimp only
   rw [beq_nat, hl, beq_self_eq_true, cond_true]
  have he := name_end (s := s) (i := i) hn (by omega)
  refine loop_inr hG ?_
  unfold nameP
  cases hb : endsB out n with
  | true => exact he.1 hb
  | false => exact (he.2 hb).1 hl
 | c :: r, out, n, i, hd, hi, hn, ho, hn2 => by
  have hlt : i < s.length := by
   have := congrArg List.length hd
   simp at this
   omega
  have hr : s.drop (i + 1) = r := by rw [<- List.tail_drop, hd]; rfl
  have hc : s[i]? = some c := by rw [<- List.head?_drop, hd]; rfl
  have hg : getI s (i : Int) = some c := by
   unfold getI
   rw [decide_eq_true (by omega), cond_true, Int.toNat_natCast, hc]
  have hG : F_host_Name_G1 s (2, (out, (i : Int), (n : Int))) = cond (c == 46) (some (.inr (1, (out, (i : Int), (n : Int))))) (cond ((sg c == 0) || ((n : Int) == 63)) (some (.inr (0, (out, (i : Int), (n : Int))))) (cond ((sg c == 45) && ((n : Int) == 0)) (some (.inr (0, (out, (i : Int), (n : Int))))) (some (.inr (2, (out ++ [sg c], ((i + 1 : Nat) : Int), ((n + 1 : Nat) : Int))))))) := by
   show F_host_Name_G1_2 s (out, (i : Int), (n : Int)) = _
   unfold F_host_Name_G1_2
   dsimp only
   rw [beq_nat, beq_eq_false_iff_ne.2 (show i ≠ s.length by omega), cond_false, hg, Option.bind_some, Option.bind_some, sign_eq, Option.bind_some]
   unfold chk
   rw [chk_out (by show out.length + 1 <= _; omega), cond_true, wrap_in (by omega) (by omega), wrap_in (by omega) (by omega)]
   rfl
  have he := name_end (s := s) (i := i) hn (by omega)
  unfold nameP
  cases h46 : c == 46 with
  | true =>
   rw [h46, cond_true] at hG
   rw [cond_true]
   refine loop_inr hG ?_
   cases hb : endsB out n with
   | true => exact he.1 hb
   | false =>
    refine (he.2 hb).2 hlt (by omega) _ ?_
    exact name_loop s hs r (out ++ [46]) 0 (i + 1) hr (by omega) (.inl rfl) (by simp; omega) (by omega)
  | false =>
   have e63 : ((n : Int) == 63) = (n == 63) := beq_nat n 63
   have e0 : ((n : Int) == 0) = (n == 0) := beq_nat n 0
   rw [h46, cond_false, e63, e0] at hG
   rw [cond_false]
   cases h1 : (sg c == 0) || (n == 63) with
   | true =>
    rw [h1, cond_true] at hG
    rw [Bool.true_or, cond_true]
    exact loop_inr hG (name_wrong s _)
   | false =>
    rw [h1, cond_false] at hG
    rw [Bool.false_or]
    cases h2 : (sg c == 45) && (n == 0) with
    | true =>
     rw [h2, cond_true] at hG
     rw [cond_true]
     exact loop_inr hG (name_wrong s _)
    | false =>
     rw [h2, cond_false] at hG
     rw [cond_false]
     have hne : n ≠ 63 := by
      rcases Bool.or_eq_false_iff.1 h1 with ⟨_, h⟩
      exact beq_eq_false_iff_ne.1 h
     refine loop_inr hG ?_
     exact name_loop s hs r (out ++ [sg c]) (n + 1) (i + 1) hr (by omega) (.inr (by simp)) (by simp; omega) (by omega)
theorem name_form (s : List Int) : F_host_Name s = joinC (S := Nat × List Int × Int × Int) (R := List Int × Int) (cond (decide ((s.length : Int) > 253)) (some (.inr (0, (([] : List Int), 0, 0)))) (F_host_Name_G1_2 s ([], 0, 0))) (fun p => loopC (S := Nat × List Int × Int × Int) (R := List Int × Int) (F_host_Name_G1 s) p) := rfl
theorem name_eq (s : List Int) : F_host_Name s = some (nameR s) := by
 rw [name_form]
 unfold nameR
 by_cases h : 253 < s.length
 ·rw [decide_eq_true (show (s.length : Int) > 253 by omega), decide_eq_true h, cond_true, cond_true]
  exact name_wrong s _
 ·rw [decide_eq_false (show ¬ (s.length : Int) > 253 by omega), decide_eq_false h, cond_false, cond_false]
  have hl := name_loop s (by omega) s [] 0 0 rfl (by omega) (.inl rfl) (by simp) (by omega)
  obtain ⟨k, hk⟩ := iter_of_loop' hl
  cases k with
  | zero => cases hk
  | succ k =>
   unfold iterC at hk
   have hG : F_host_Name_G1 s (2, (([] : List Int), ((0 : Nat) : Int), ((0 : Nat) : Int))) = F_host_Name_G1_2 s ([], 0, 0) := rfl
   rw [hG] at hk
   split at hk
   ·cases hk
   ·rename_i r hr
    rw [hr]
    exact hk
   ·rename_i x hx
    rw [hx]
    exact loop_of_iter hk
theorem prefix_lit (s p : List Int) (hs : s.length <= 1000000) : F_strings_HasPrefix s p = some (decide (p.length <= s.length) && (s.take p.length == p)) := by
 unfold F_strings_HasPrefix F_internal_stringslite_HasPrefix
 by_cases h : p.length <= s.length
 ·rw [decide_eq_true (show (s.length : Int) >= (p.length : Int) by omega), cond_true, decide_eq_true h, Bool.true_and]
  have := cutI_nat (s := s) (a := 0) (b := p.length) (by omega) h
  rw [show cutI s 0 (p.length : Int) = some (s.take p.length) from this]
  rfl
 ·rw [decide_eq_false (show ¬ (s.length : Int) >= (p.length : Int) by omega), cond_false, decide_eq_false h]
  rfl
def dg (c : Int) : Int := if 48 <= c /\ c <= 57 then c - 48 else if 97 <= c /\ c <= 102 then c - 87 else if 65 <= c /\ c <= 70 then c - 55 else -1
theorem dg_in (c : Int) : -1 <= dg c /\ dg c < 16 := by unfold dg; split; omega; split; omega; split; omega; omega
theorem u8_sm {x : Int} (h0 : 0 <= x) (h1 : x < 256) : IntKind.u8.wrap x = x := by rw [IntKind.wrap_u8]; omega
theorem digit_eq (c : Int) : F_addr_digit c = some (dg c) := by
 unfold F_addr_digit dg
 by_cases h1 : 48 <= c /\ c <= 57
 ·rw [show (decide (c >= 48) && decide (c <= 57)) = true by simpa using h1, cond_true, if_pos h1, u8_sm (by omega) (by omega), wrap_in (by omega) (by omega)]
 ·rw [show (decide (c >= 48) && decide (c <= 57)) = false by simp; omega, cond_false, if_neg h1]
  by_cases h2 : 97 <= c /\ c <= 102
  ·rw [show (decide (c >= 97) && decide (c <= 102)) = true by simpa using h2, cond_true, if_pos h2, u8_sm (by omega) (by omega), wrap_in (x := c - 97) (by omega) (by omega), wrap_in (by omega) (by omega)]
   congr 1; omega
  ·rw [show (decide (c >= 97) && decide (c <= 102)) = false by simp; omega, cond_false, if_neg h2]
   by_cases h3 : 65 <= c /\ c <= 70
   ·rw [show (decide (c >= 65) && decide (c <= 70)) = true by simpa using h3, cond_true, if_pos h3, u8_sm (by omega) (by omega), wrap_in (x := c - 65) (by omega) (by omega), wrap_in (by omega) (by omega)]
    congr 1; omega
   ·rw [show (decide (c >= 65) && decide (c <= 70)) = false by simp; omega, cond_false, if_neg h3]
theorem or16 {n d : Int} (h0 : 0 <= n) (h1 : n < 65536) (h2 : 0 <= d) (h3 : d < 16) : bits .or .i64 (IntKind.i64.wrap (n * 2 ^ 4)) d = n * 16 + d := by
  have e : n * 2 ^ 4 = n * 16 := rfl
  rw [e, wrap_in (by omega) (by omega)]
  exact bits_join .i64 40 (by decide) (fun n h0 h1 => wrap_in (by omega) (by have e : (2 : Int) ^ 40 = 1099511627776 := by decide
                                                                             omega)) 4 (n * 16) d (by omega) (by omega) (by have e : (2 : Int) ^ 40 = 1099511627776 := by decide
                                                                                                                            omega) h2 h3 (by have e : (2 : Int) ^ 40 = 1099511627776 := by decide
                                                                                                                                             omega)
def digs : List Int -> Int -> Nat -> Int × List Int
 | [], n, _ => (n, [])
 | c :: r, n, z => cond (decide (0 <= dg c) && decide (z < 4)) (digs r (n * 16 + dg c) (z + 1)) (n, c :: r)
def by2 (n : Int) : List Int := [n / 256 % 256, n % 256]
theorem by2_eq {n : Int} (h0 : 0 <= n) : ([(IntKind.u8.wrap (Int.fdiv n (2 ^ 8))), (IntKind.u8.wrap n)] : List Int) = by2 n := by
 rw [IntKind.wrap_u8, IntKind.wrap_u8, Int.fdiv_eq_ediv_of_nonneg _ (by decide)]; rfl
def overM (b : List Int) (g : Int) : Option (List Int) := cond (decide (g < 0)) (cond (b.length == 16) (some b) none) (cond (decide (16 <= b.length)) none (some (insZ b g.toNat)))
def tail3 (f : List Int -> Int -> List Int -> Option (List Int)) (b : List Int) : List Int -> Option (List Int)
 | [] => overM b b.length
 | e :: r3 => f b b.length (e :: r3)
def tail2 (f : List Int -> Int -> List Int -> Option (List Int)) (b : List Int) (g : Int) : List Int -> Option (List Int)
 | [] => none
 | d :: r2 => cond (d != 58) (f b g (d :: r2)) (cond (decide (0 <= g)) none (tail3 f b r2))
def tailM (f : List Int -> Int -> List Int -> Option (List Int)) (b : List Int) (g : Int) : List Int -> Option (List Int)
 | [] => overM b g
 | c :: r => cond (c != 58 || b.length == 16) none (tail2 f b g r)
def colM : Nat -> List Int -> Int -> List Int -> Option (List Int)
 | 0, _, _, _ => none
 | _ + 1, _, _, [] => none
 | k + 1, b, g, c :: r => cond (decide (0 <= dg c)) (tailM (colM k) (b ++ by2 (digs r (dg c) 1).1) g (digs r (dg c) 1).2) none
def RelC (o : Option (List Int × Bool)) (m : Option (List Int)) : Prop := match m with
 | some x => o = some (x, true)
 | none => ∃ v : List Int, o = some (v, false) /\ v.length <= 16
theorem relC_fail : RelC (some (([] : List Int), false)) none := ⟨[], rfl, by simp⟩
theorem over_rel (s b : List Int) (g i n z : Int) (hb : b.length <= 16) (h1 : -1 <= g) (h2 : g <= b.length) : RelC (loopC (F_addr_coloned_G1 s) (0, (b, g, i, n, z))) (overM b g) := by
  have hbody : F_addr_coloned_G1 s (0, (b, g, i, n, z)) = F_addr_coloned_G1_0 (b, g, i, n, z) := rfl
  unfold overM
  unfold F_addr_coloned_G1_0 at hbody
  dsimp only at hbody
  by_cases hg : g < 0
  · rw [decide_eq_true hg, cond_true] at hbody ⊢
    rw [loop_inl hbody]
    cases h16 : b.length == 16 with
    | true => rw [beq_iff_eq.2 (show (b.length : Int) = 16 by have := beq_iff_eq.1 h16; omega)]; rfl
    | false => rw [beq_eq_false_iff_ne.2 (show (b.length : Int) ≠ 16 by have := beq_eq_false_iff_ne.1 h16; omega)]; exact ⟨b, rfl, hb⟩
  · rw [decide_eq_false hg, cond_false] at hbody ⊢
    by_cases h16 : 16 <= b.length
    · rw [decide_eq_true (show (b.length : Int) >= 16 by omega), cond_true] at hbody
      rw [loop_inl hbody, decide_eq_true h16]
      exact relC_fail
    · have hok : insOk b g = true := by
        unfold insOk
        simp only [Bool.and_eq_true, decide_eq_true_eq]
        exact ⟨⟨by omega, h2⟩, by rw [Nat.blt_eq]; omega⟩
      rw [decide_eq_false (show ¬ (b.length : Int) >= 16 by omega), cond_false, hok] at hbody
      rw [loop_inl hbody, decide_eq_false h16]
      rfl
structure AtG (b : List Int) (g : Int) : Prop where
 len : b.length <= 14
 even : b.length % 2 = 0
 lo : -1 <= g
 hi : g <= b.length
theorem len2 (b : List Int) (n : Int) : (b ++ by2 n).length = b.length + 2 := by rw [List.length_append]; rfl
theorem drop_cons {s r : List Int} {c : Int} {i : Nat} (h : s.drop i = c :: r) : i < s.length /\ s[i]? = some c /\ s.drop (i + 1) = r := by
 have hl : i < s.length := by
  rcases Nat.lt_or_ge i s.length with h1 | h1
  ·exact h1
  ·rw [List.drop_of_length_le h1] at h; cases h
 rw [List.drop_eq_getElem_cons hl] at h
 injection h with h1 h2
 exact ⟨hl, by rw [List.getElem?_eq_getElem hl, h1], h2⟩
theorem drop_nil' {s : List Int} {i : Nat} (h : s.drop i = []) (hi : i <= s.length) : i = s.length := by
 have := List.drop_eq_nil_iff.1 h
 omega
theorem tail_rel (s : List Int) (hs : s.length <= 1000000) (f : List Int -> Int -> List Int -> Option (List Int)) (b : List Int) (g : Int) (hA : AtG b g) (i : Nat) (n : Int) (z : Nat) (r : List Int) (hr : s.drop i = r) (hi : i <= s.length) (h0 : 0 <= n) (h1 : n < 65536) (hz : 1 <= z) (hz4 : z <= 4)
  (hstop : r = [] \/ ∃ c r', r = c :: r' /\ (decide (0 <= dg c) && decide (z < 4)) = false)
  (ih : ∀ (b' : List Int) (g' : Int) (j : Nat) (r' : List Int) (n' z' : Int), AtG b' g' -> s.drop j = r' -> j <= s.length -> i < j -> RelC (loopC (F_addr_coloned_G1 s) (1, (b', g', (j : Int), n', z'))) (f b' g' r')) (hf : ∀ b g, f b g [] = none) :
  RelC (loopC (F_addr_coloned_G1 s) (2, (b, g, (i : Int), n, (z : Int)))) (tailM f (b ++ by2 n) g r) := by
 have hbody : F_addr_coloned_G1 s (2, (b, g, (i : Int), n, (z : Int))) = F_addr_coloned_G1_2 s (b, g, (i : Int), n, (z : Int)) := rfl
 unfold F_addr_coloned_G1_2 chk at hbody
 dsimp only at hbody
 have hb14 := hA.len
 have hck : (decide ((b.length + (by2 n).length) * 1 <= 140737488355328) && decide (b.length + (by2 n).length <= maxLen)) = true := chk1 (by show b.length + 2 <= _; omega)
 have hz0 : ((z : Int) == 0) = false := beq_eq_false_iff_ne.2 (by omega)
 have hl2 := len2 b n
 rw [by2_eq h0, hck, hz0] at hbody
 simp only [cond_true, cond_false] at hbody
 rcases hstop with rfl | ⟨c, r', rfl, hc⟩
 ·have hie := drop_nil' hr hi
  rw [decide_eq_false (show ¬ (i : Int) < (s.length : Int) by omega), cond_false, beq_iff_eq.2 (show (i : Int) = (s.length : Int) by omega), cond_true] at hbody
  have ho := over_rel s (b ++ by2 n) g i n z (by omega) hA.lo (by have := hA.hi; omega)
  show RelC _ (overM (b ++ by2 n) g)
  cases hm : loopC (F_addr_coloned_G1 s) (0, (b ++ by2 n, g, (i : Int), n, (z : Int))) with
  | none =>
   rw [hm] at ho
   unfold RelC at ho
   split at ho
   ·cases ho
   ·obtain ⟨v, hv, _⟩ := ho; cases hv
  | some x =>
   rw [loop_inr hbody hm]
   rw [hm] at ho
   exact ho
 ·obtain ⟨hlt, hget, hdrop⟩ := drop_cons hr
  have hg1 := getI_nat hget
  have hdz : (decide (dg c >= 0) && decide ((z : Int) < 4)) = false := by
   rw [<- hc]
   congr 1
   exact decide_eq_decide.2 (by omega)
  rw [decide_eq_true (show (i : Int) < (s.length : Int) by omega), cond_true, hg1] at hbody
  simp only [Option.bind_some, digit_eq, hdz, cond_false] at hbody
  rw [beq_eq_false_iff_ne.2 (show (i : Int) ≠ (s.length : Int) by omega), cond_false, show ((((b ++ by2 n).length : Nat) : Int) == 16) = ((b ++ by2 n).length == 16) by rw [Bool.eq_iff_iff, beq_iff_eq, beq_iff_eq]; omega] at hbody
  have pass : ∀ {x : Nat × List Int × Int × Int × Int × Int} {m : Option (List Int)}, F_addr_coloned_G1 s (2, (b, g, (i : Int), n, (z : Int))) = some (.inr x) -> RelC (loopC (F_addr_coloned_G1 s) x) m -> RelC (loopC (F_addr_coloned_G1 s) (2, (b, g, (i : Int), n, (z : Int)))) m := fun {x m} he hm => by
   cases hl : loopC (F_addr_coloned_G1 s) x with
   | none =>
    rw [hl] at hm
    unfold RelC at hm
    split at hm
    ·cases hm
    ·obtain ⟨v, hv, _⟩ := hm; cases hv
   | some y =>
    rw [loop_inr he hl]
    rw [hl] at hm
    exact hm
  show RelC _ (cond (c != 58 || (b ++ by2 n).length == 16) none (tail2 f (b ++ by2 n) g r'))
  cases hx : (c != 58 || (b ++ by2 n).length == 16) with
  | true =>
   rw [hx, cond_true] at hbody
   rw [loop_inl hbody]
   exact relC_fail
  | false =>
   rw [hx, cond_false, wrap_in (x := (i : Int) + 1) (by omega) (by omega)] at hbody
   rw [cond_false]
   have hne : ¬ (b ++ by2 n).length = 16 := beq_eq_false_iff_ne.1 (Bool.or_eq_false_iff.1 hx).2
   have hA' : AtG (b ++ by2 n) g := ⟨by have := hA.even; omega, by rw [hl2]; have := hA.even; omega, hA.lo, by have := hA.hi; omega⟩
   cases r' with
   | nil =>
    have hie := drop_nil' hdrop (by omega)
    rw [beq_iff_eq.2 (show (i : Int) + 1 = (s.length : Int) by omega), cond_true] at hbody
    have := ih (b ++ by2 n) g (i + 1) [] n z hA' hdrop (by omega) (by omega)
    rw [hf] at this
    exact pass hbody (by exact_mod_cast this)
   | cons d r2 =>
    obtain ⟨hlt2, hget2, hdrop2⟩ := drop_cons hdrop
    have hg2 : getI s ((i : Int) + 1) = some d := getI_nat (i := i + 1) hget2
    rw [beq_eq_false_iff_ne.2 (show (i : Int) + 1 ≠ (s.length : Int) by omega), cond_false, hg2, Option.bind_some] at hbody
    show RelC _ (cond (d != 58) (f (b ++ by2 n) g (d :: r2)) (cond (decide (0 <= g)) none (tail3 f (b ++ by2 n) r2)))
    cases hd : d != 58 with
    | true =>
     rw [hd, cond_true] at hbody
     rw [cond_true]
     have := ih (b ++ by2 n) g (i + 1) (d :: r2) n z hA' hdrop (by omega) (by omega)
     exact pass hbody (by exact_mod_cast this)
    | false =>
     rw [hd, cond_false] at hbody
     by_cases hg0 : 0 <= g
     ·rw [decide_eq_true (show g >= 0 from hg0), cond_true] at hbody
      rw [loop_inl hbody, cond_false, decide_eq_true hg0]
      exact relC_fail
     ·rw [decide_eq_false (show ¬ g >= 0 from hg0), cond_false, wrap_in (x := (i : Int) + 1 + 1) (by omega) (by omega)] at hbody
      rw [cond_false, decide_eq_false hg0, cond_false]
      have hA2 : AtG (b ++ by2 n) ((b ++ by2 n).length : Int) := ⟨hA'.len, hA'.even, by omega, Int.le_refl _⟩
      cases r2 with
      | nil =>
       have hie := drop_nil' hdrop2 (by omega)
       rw [decide_eq_false (show ¬ (i : Int) + 1 + 1 < (s.length : Int) by omega), cond_false, decide_eq_false (show ¬ ((b ++ by2 n).length : Int) < 0 by omega), cond_false] at hbody
       show RelC _ (overM (b ++ by2 n) ((b ++ by2 n).length : Int))
       unfold overM
       rw [decide_eq_false (show ¬ ((b ++ by2 n).length : Int) < 0 by omega), cond_false]
       have h14 := hA'.len
       rw [decide_eq_false (show ¬ ((b ++ by2 n).length : Int) >= 16 by omega), cond_false] at hbody
       have hok : insOk (b ++ by2 n) ((b ++ by2 n).length : Int) = true := by
        unfold insOk
        simp only [Bool.and_eq_true, decide_eq_true_eq]
        exact ⟨⟨by omega, Int.le_refl _⟩, by rw [Nat.blt_eq]; omega⟩
       rw [hok, cond_true] at hbody
       rw [loop_inl hbody, decide_eq_false (show ¬ 16 <= (b ++ by2 n).length by omega)]
       rfl
      | cons e r3 =>
       obtain ⟨hlt3, _, _⟩ := drop_cons hdrop2
       rw [decide_eq_true (show (i : Int) + 1 + 1 < (s.length : Int) by omega), cond_true] at hbody
       have := ih (b ++ by2 n) ((b ++ by2 n).length : Int) (i + 1 + 1) (e :: r3) n z hA2 hdrop2 (by omega) (by omega)
       exact pass hbody (by exact_mod_cast this)
theorem rel_some {o : Option (List Int × Bool)} {m : Option (List Int)} (h : RelC o m) : ∃ x, o = some x := by
 unfold RelC at h
 split at h
 ·exact ⟨_, h⟩
 ·obtain ⟨v, hv, _⟩ := h; exact ⟨_, hv⟩
theorem rel_inr {s : List Int} {y x : Nat × List Int × Int × Int × Int × Int} {m : Option (List Int)} (he : F_addr_coloned_G1 s y = some (.inr x)) (hm : RelC (loopC (F_addr_coloned_G1 s) x) m) : RelC (loopC (F_addr_coloned_G1 s) y) m := by
 obtain ⟨v, hv⟩ := rel_some hm
 rw [loop_inr he hv]
 rw [hv] at hm
 exact hm
theorem pow16 : ∀ z : Nat, 1 <= z -> z <= 4 -> (16 : Int) ^ z <= 65536
 | 1, _, _ => by decide
 | 2, _, _ => by decide
 | 3, _, _ => by decide
 | 4, _, _ => by decide
 | 0, h, _ => absurd h (by decide)
 | n + 5, _, h => absurd h (by omega)
theorem digs_rel (s : List Int) (hs : s.length <= 1000000) (f : List Int -> Int -> List Int -> Option (List Int)) (b : List Int) (g : Int) (hA : AtG b g) (hf : ∀ b g, f b g [] = none) : ∀ (r : List Int) (i : Nat) (n : Int) (z : Nat), s.drop i = r -> i <= s.length -> 0 <= n -> n < 16 ^ z -> 1 <= z -> z <= 4 ->
  (∀ (b' : List Int) (g' : Int) (j : Nat) (r' : List Int) (n' z' : Int), AtG b' g' -> s.drop j = r' -> j <= s.length -> i <= j -> RelC (loopC (F_addr_coloned_G1 s) (1, (b', g', (j : Int), n', z'))) (f b' g' r')) ->
  RelC (loopC (F_addr_coloned_G1 s) (2, (b, g, (i : Int), n, (z : Int)))) (tailM f (b ++ by2 (digs r n z).1) g (digs r n z).2)
 | [], i, n, z, hr, hi, h0, h1, hz, hz4, ih => by
  have hp := pow16 z hz hz4
  exact tail_rel s hs f b g hA i n z [] hr hi h0 (by omega) hz hz4 (.inl rfl) (fun b' g' j r' n' z' a1 a2 a3 a4 => ih b' g' j r' n' z' a1 a2 a3 (by omega)) hf
 | c :: r, i, n, z, hr, hi, h0, h1, hz, hz4, ih => by
  have hp := pow16 z hz hz4
  have h65 : n < 65536 := by omega
  unfold digs
  cases hc : decide (0 <= dg c) && decide (z < 4) with
  | false =>
   rw [cond_false]
   exact tail_rel s hs f b g hA i n z (c :: r) hr hi h0 h65 hz hz4 (.inr ⟨c, r, rfl, hc⟩) (fun b' g' j r' n' z' a1 a2 a3 a4 => ih b' g' j r' n' z' a1 a2 a3 (by omega)) hf
  | true =>
   rw [cond_true]
   obtain ⟨hlt, hget, hdrop⟩ := drop_cons hr
   simp only [Bool.and_eq_true, decide_eq_true_eq] at hc
   obtain ⟨hd0, hz3⟩ := hc
   obtain ⟨_, hd1⟩ := dg_in c
   have hp2 : (16 : Int) ^ (z + 1) = 16 ^ z * 16 := Int.pow_succ ..
   have hrec := digs_rel s hs f b g hA hf r (i + 1) (n * 16 + dg c) (z + 1) hdrop (by omega) (by omega) (by rw [hp2]; omega) (by omega) (by omega) (fun b' g' j r' n' z' a1 a2 a3 a4 => ih b' g' j r' n' z' a1 a2 a3 (by omega))
   refine rel_inr (x := (2, (b, g, ((i + 1 : Nat) : Int), n * 16 + dg c, ((z + 1 : Nat) : Int)))) ?_ hrec
   show F_addr_coloned_G1_2 s (b, g, (i : Int), n, (z : Int)) = _
   unfold F_addr_coloned_G1_2
   dsimp only
   rw [decide_eq_true (show (i : Int) < (s.length : Int) by omega), cond_true, getI_nat hget]
   simp only [Option.bind_some, digit_eq]
   rw [decide_eq_true (show dg c >= 0 from hd0), decide_eq_true (show (z : Int) < 4 by omega), Bool.true_and, cond_true, or16 h0 h65 hd0 hd1, wrap_in (x := (i : Int) + 1) (by omega) (by omega), wrap_in (x := (z : Int) + 1) (by omega) (by omega)]
   rfl
theorem colM_nil : ∀ (k : Nat) (b : List Int) (g : Int), colM k b g [] = none
 | 0, _, _ => rfl
 | _ + 1, _, _ => rfl
theorem colM_rel (s : List Int) (hs : s.length <= 1000000) : ∀ (k : Nat) (b : List Int) (g : Int) (i : Nat) (r : List Int) (n z : Int), r.length < k -> AtG b g -> s.drop i = r -> i <= s.length -> RelC (loopC (F_addr_coloned_G1 s) (1, (b, g, (i : Int), n, z))) (colM k b g r)
 | 0, _, _, _, _, _, _, hk, _, _, _ => absurd hk (Nat.not_lt_zero _)
 | k + 1, b, g, i, r, n, z, hk, hA, hr, hi => by
  have hbody : F_addr_coloned_G1 s (1, (b, g, (i : Int), n, z)) = F_addr_coloned_G1_1 s (b, g, (i : Int), n, z) := rfl
  unfold F_addr_coloned_G1_1 at hbody
  dsimp only at hbody
  cases r with
  | nil =>
   have hie := drop_nil' hr hi
   rw [decide_eq_false (show ¬ (i : Int) < (s.length : Int) by omega), cond_false] at hbody
   rw [loop_inl hbody]
   exact relC_fail
  | cons c r =>
   obtain ⟨hlt, hget, hdrop⟩ := drop_cons hr
   obtain ⟨_, hd1⟩ := dg_in c
   rw [decide_eq_true (show (i : Int) < (s.length : Int) by omega), cond_true, getI_nat hget] at hbody
   simp only [Option.bind_some, digit_eq] at hbody
   unfold colM
   by_cases hd0 : 0 <= dg c
   ·rw [decide_eq_true (show dg c >= 0 from hd0), show (true && decide ((0 : Int) < 4)) = true from rfl, cond_true, or16 (by decide) (by decide) hd0 hd1, wrap_in (x := (i : Int) + 1) (by omega) (by omega)] at hbody
    rw [decide_eq_true hd0, cond_true]
    have hlen : (s.drop i).length = s.length - i := List.length_drop ..
    rw [hr, List.length_cons] at hlen
    have hrec := digs_rel s hs (colM k) b g hA (colM_nil k) r (i + 1) (dg c) 1 hdrop (by omega) hd0 (by simpa using hd1) (by omega) (by omega) (fun b' g' j r' n' z' a1 a2 a3 a4 => by
     refine colM_rel s hs k b' g' j r' n' z' ?_ a1 a2 a3
     have h2 : (s.drop j).length = s.length - j := List.length_drop ..
     rw [a2] at h2
     have hk' : r.length + 1 < k + 1 := hk
     omega)
    refine rel_inr (x := (2, (b, g, ((i + 1 : Nat) : Int), dg c, ((1 : Nat) : Int)))) ?_ hrec
    rw [hbody]
    have e : (0 : Int) * 16 + dg c = dg c := by omega
    rw [e]
    rfl
   ·rw [decide_eq_false (show ¬ dg c >= 0 from hd0), show (false && decide ((0 : Int) < 4)) = false from rfl, cond_false] at hbody
    rw [loop_inl hbody, decide_eq_false hd0]
    exact relC_fail
theorem join_loop {S R : Type} {body : S -> Option (R ⊕ S)} {s0 : S} {r : R} (h : loopC body s0 = some r) : joinC (body s0) (fun p => loopC body p) = some r := by
 obtain ⟨n, hn⟩ := iter_of_loop' h
 cases n with
 | zero => cases hn
 | succ n =>
  unfold iterC at hn
  split at hn
  ·cases hn
  ·rename_i x hx
   injection hn with hn
   rw [hx, hn]; rfl
  ·rename_i x hx
   rw [hx]
   exact loop_of_iter hn
def colR (s : List Int) : Option (List Int) :=
 cond (s.take 2 == [58, 58]) (cond (s.drop 2 == []) (some (insZ [] 0)) (colM s.length [] 0 (s.drop 2))) (colM (s.length + 1) [] (-1) s)
theorem coloned_rel (s : List Int) (hs : s.length <= 1000000) : RelC (F_addr_coloned s) (colR s) := by
 have hA1 : AtG [] (-1) := ⟨by simp, rfl, by omega, by simp⟩
 have hA0 : AtG [] 0 := ⟨by simp, rfl, by omega, by simp⟩
 have go : ∀ (g : Int) (i : Nat) (A : Option ((List Int × Bool) ⊕ (Nat × List Int × Int × Int × Int × Int))) (k : Nat), (s.drop i).length < k -> AtG [] g -> i <= s.length -> A = F_addr_coloned_G1_1 s (([] : List Int), g, (i : Int), 0, 0) -> RelC (joinC A (fun p => loopC (F_addr_coloned_G1 s) p)) (colM k [] g (s.drop i)) := fun g i A k hk hA hi he => by
  have := colM_rel s hs k [] g i (s.drop i) 0 0 hk hA rfl hi
  obtain ⟨v, hv⟩ := rel_some this
  have he' : A = F_addr_coloned_G1 s (1, (([] : List Int), g, (i : Int), 0, 0)) := he
  rw [he', join_loop hv]
  rw [hv] at this
  exact this
 have hpre : (decide (([58, 58] : List Int).length <= s.length) && (s.take ([58, 58] : List Int).length == [58, 58])) = (s.take 2 == [58, 58]) := by
  show (decide (2 <= s.length) && (s.take 2 == [58, 58])) = _
  by_cases h : 2 <= s.length
  ·rw [decide_eq_true h, Bool.true_and]
  ·rw [decide_eq_false h, Bool.false_and]
   refine (beq_eq_false_iff_ne.2 fun e => ?_).symm
   have := congrArg List.length e
   rw [List.length_take] at this
   simp at this
   omega
 unfold F_addr_coloned colR
 rw [prefix_lit s _ hs, Option.bind_some, hpre]
 cases h2 : s.take 2 == [58, 58] with
 | false =>
  rw [cond_false, cond_false]
  have := go (-1) 0 _ (s.length + 1) (by rw [List.drop_zero]; omega) hA1 (by omega) rfl
  rw [List.drop_zero] at this
  exact this
 | true =>
  rw [cond_true, cond_true]
  have hlen : 2 <= s.length := by
   have := congrArg List.length (beq_iff_eq.1 h2)
   rw [List.length_take] at this
   simp at this
   omega
  have hdl : (s.drop 2).length = s.length - 2 := List.length_drop ..
  cases hd : s.drop 2 with
  | nil =>
   rw [hd] at hdl
   have hl2 : s.length = 2 := by simp at hdl; omega
   rw [beq_iff_eq.2 (show (2 : Int) = (s.length : Int) by omega), cond_true, show (([] : List Int) == []) = true from rfl, cond_true]
   rw [join_inr (s := (0, (([] : List Int), 0, 2, 0, 0))) rfl]
   exact loop_inl rfl
  | cons c r =>
   rw [hd, List.length_cons] at hdl
   rw [beq_eq_false_iff_ne.2 (show (2 : Int) ≠ (s.length : Int) by omega), cond_false, show ((c :: r) == ([] : List Int)) = false from rfl, cond_false]
   have := go 0 2 _ s.length (by rw [hd, List.length_cons]; omega) hA0 hlen rfl
   rw [hd] at this
   exact this
def hexGB (p : List Int) : Bool := decide (1 <= p.length) && decide (p.length <= 4) && p.all fun c => decide (0 <= dg c)
def hexV (p : List Int) : Int := p.foldl (fun n c => n * 16 + dg c) 0
def bytesP (ps : List (List Int)) : List Int := ps.flatMap fun p => by2 (hexV p)
theorem bytesP_len (ps : List (List Int)) : (bytesP ps).length = 2 * ps.length := by
 induction ps with
 | nil => rfl
 | cons p ps ih =>
  show (by2 (hexV p) ++ bytesP ps).length = _
  rw [List.length_append, ih, List.length_cons]
  show 2 + _ = _
  omega
theorem bytesP_cons (p : List Int) (ps : List (List Int)) : bytesP (p :: ps) = by2 (hexV p) ++ bytesP ps := rfl
theorem hexB_nil : hexGB [] = false := rfl
def Stop (rest : List Int) : Prop := rest = [] \/ ∃ r, rest = 58 :: r
theorem part_ex : ∀ r : List Int, ∃ p rest, r = p ++ rest /\ (∀ c ∈ p, c ≠ 58) /\ Stop rest
 | [] => ⟨[], [], rfl, fun _ h => (by cases h), .inl rfl⟩
 | c :: r => by
  by_cases h : c = 58
  ·exact ⟨[], c :: r, rfl, fun _ h => (by cases h), .inr ⟨r, by rw [h]⟩⟩
  ·obtain ⟨p, rest, e, h1, h2⟩ := part_ex r
   refine ⟨c :: p, rest, by rw [e]; rfl, fun x hx => ?_, h2⟩
   rcases List.mem_cons.1 hx with rfl | hx
   ·exact h
   ·exact h1 x hx
theorem split_p : ∀ (p : List Int), (∀ c ∈ p, c ≠ 58) -> splitI p 58 = [p]
 | [], _ => rfl
 | c :: p, h => by
  unfold splitI
  rw [beq_eq_false_iff_ne.2 (h c List.mem_cons_self), cond_false, split_p p fun x hx => h x (List.mem_cons_of_mem _ hx)]
theorem split_pc : ∀ (p r : List Int), (∀ c ∈ p, c ≠ 58) -> splitI (p ++ 58 :: r) 58 = p :: splitI r 58
 | [], r, _ => by
  show cond ((58 : Int) == 58) ([] :: splitI r 58) (match splitI r 58 with | [] => [[58]] | w :: q => (58 :: w) :: q) = [] :: splitI r 58
  rfl
 | c :: p, r, h => by
  show splitI (c :: (p ++ 58 :: r)) 58 = _
  rw [show splitI (c :: (p ++ 58 :: r)) 58 = cond (c == 58) ([] :: splitI (p ++ 58 :: r) 58) (match splitI (p ++ 58 :: r) 58 with | [] => [[c]] | w :: q => (c :: w) :: q) from rfl]
  rw [beq_eq_false_iff_ne.2 (h c List.mem_cons_self), cond_false, split_pc p r fun x hx => h x (List.mem_cons_of_mem _ hx)]
theorem digs_part : ∀ (p rest : List Int) (n : Int) (z : Nat), (∀ c ∈ p, c ≠ 58) -> Stop rest -> z <= 4 ->
  ((p.all fun c => decide (0 <= dg c)) && decide (z + p.length <= 4)) = true /\ digs (p ++ rest) n z = (p.foldl (fun n c => n * 16 + dg c) n, rest) \/
  ((p.all fun c => decide (0 <= dg c)) && decide (z + p.length <= 4)) = false /\ ∃ m c q, digs (p ++ rest) n z = (m, c :: q) /\ c ≠ 58
 | [], rest, n, z, _, hr, hz => by
  refine .inl ⟨by simpa using hz, ?_⟩
  rcases hr with rfl | ⟨r, rfl⟩
  ·rfl
  ·show digs (58 :: r) n z = _
   unfold digs
   rfl
 | c :: p, rest, n, z, h, hr, hz => by
  have hc := h c List.mem_cons_self
  have hp : ∀ x ∈ p, x ≠ 58 := fun x hx => h x (List.mem_cons_of_mem _ hx)
  have hu : digs ((c :: p) ++ rest) n z = cond (decide (0 <= dg c) && decide (z < 4)) (digs (p ++ rest) (n * 16 + dg c) (z + 1)) (n, c :: (p ++ rest)) := rfl
  rw [hu, List.all_cons, List.length_cons]
  cases hd : decide (0 <= dg c) with
  | false => exact .inr ⟨rfl, n, c, p ++ rest, rfl, hc⟩
  | true =>
   by_cases hz4 : z < 4
   ·rw [decide_eq_true hz4]
    have ih := digs_part p rest (n * 16 + dg c) (z + 1) hp hr (by omega)
    rw [show z + (p.length + 1) = z + 1 + p.length by omega]
    exact ih
   ·rw [decide_eq_false hz4, decide_eq_false (show ¬ z + (p.length + 1) <= 4 by omega), Bool.and_false]
    exact .inr ⟨rfl, n, c, p ++ rest, rfl, hc⟩
theorem col_part (k : Nat) (b : List Int) (g : Int) (p rest : List Int) (hp : ∀ c ∈ p, c ≠ 58) (hr : Stop rest) : colM (k + 1) b g (p ++ rest) = cond (hexGB p) (tailM (colM k) (b ++ by2 (hexV p)) g rest) none := by
 cases p with
 | nil =>
  rw [hexB_nil, cond_false]
  rcases hr with rfl | ⟨r, rfl⟩
  ·rfl
  ·rfl
 | cons c p =>
  have hu : colM (k + 1) b g ((c :: p) ++ rest) = cond (decide (0 <= dg c)) (tailM (colM k) (b ++ by2 (digs (p ++ rest) (dg c) 1).1) g (digs (p ++ rest) (dg c) 1).2) none := rfl
  have hb : hexGB (c :: p) = (decide (0 <= dg c) && ((p.all fun c => decide (0 <= dg c)) && decide (1 + p.length <= 4))) := by
   unfold hexGB
   rw [List.length_cons, List.all_cons, decide_eq_true (show 1 <= p.length + 1 by omega), Bool.true_and, show p.length + 1 = 1 + p.length by omega, Bool.and_comm, Bool.and_assoc]
  have hv : hexV (c :: p) = p.foldl (fun n c => n * 16 + dg c) (dg c) := by
   unfold hexV
   rw [List.foldl_cons, show (0 : Int) * 16 + dg c = dg c by omega]
  rw [hu, hb, hv]
  cases decide (0 <= dg c) with
  | false => rfl
  | true =>
   rw [cond_true, Bool.true_and]
   rcases digs_part p rest (dg c) 1 (fun x hx => hp x (List.mem_cons_of_mem _ hx)) hr (by decide) with ⟨h1, h2⟩ | ⟨h1, m, d, q, h2, h3⟩
   ·rw [h1, h2, cond_true]
   ·rw [h1, h2, cond_false]
    show cond (d != 58 || _) none _ = none
    rw [bne_iff_ne.2 h3, Bool.true_or, cond_true]
theorem stop_split {p rest : List Int} (hp : ∀ c ∈ p, c ≠ 58) (hr : Stop rest) : (rest = [] /\ splitI (p ++ rest) 58 = [p]) \/ ∃ r, rest = 58 :: r /\ splitI (p ++ rest) 58 = p :: splitI r 58 := by
 rcases hr with rfl | ⟨r, rfl⟩
 ·exact .inl ⟨rfl, by rw [List.append_nil]; exact split_p p hp⟩
 ·exact .inr ⟨r, rfl, split_pc p r hp⟩
theorem split_nn (r : List Int) : 1 <= (splitI r 58).length := by
 have := splitI_ne r 58
 cases h : splitI r 58 with
 | nil => exact absurd h this
 | cons _ _ => rw [List.length_cons]; omega
theorem col_gap : ∀ (k : Nat) (b : List Int) (g : Int) (r : List Int), r.length < k -> 0 <= g -> b.length <= 14 -> b.length % 2 = 0 ->
  colM k b g r = cond ((splitI r 58).all hexGB && decide (b.length + 2 * (splitI r 58).length <= 14)) (some (insZ (b ++ bytesP (splitI r 58)) g.toNat)) none
 | 0, _, _, _, h, _, _, _ => absurd h (Nat.not_lt_zero _)
 | k + 1, b, g, r, hk, hg, hb, he => by
  obtain ⟨p, rest, rfl, hp, hr⟩ := part_ex r
  rw [col_part k b g p rest hp hr]
  have hl := len2 b (hexV p)
  rcases stop_split hp hr with ⟨rfl, hs⟩ | ⟨r', rfl, hs⟩
  ·rw [hs]
   show cond (hexGB p) (overM (b ++ by2 (hexV p)) g) none = _
   rw [show [p].all hexGB = hexGB p by simp]
   cases hexGB p with
   | false => rfl
   | true =>
    rw [cond_true, Bool.true_and]
    unfold overM
    rw [decide_eq_false (show ¬ g < 0 by omega), cond_false, hl]
    by_cases h16 : b.length = 14
    ·rw [decide_eq_true (show 16 <= b.length + 2 by omega), decide_eq_false (show ¬ b.length + 2 * [p].length <= 14 by simp; omega)]; rfl
    ·rw [decide_eq_false (show ¬ 16 <= b.length + 2 by omega), decide_eq_true (show b.length + 2 * [p].length <= 14 by simp; omega)]
     show some _ = some (insZ (b ++ (by2 (hexV p) ++ [])) g.toNat)
     rw [List.append_nil]
  ·rw [hs, List.all_cons, List.length_cons]
   have hnn := split_nn r'
   cases hx : hexGB p with
   | false => rfl
   | true =>
    rw [cond_true, Bool.true_and]
    show cond ((58 : Int) != 58 || (b ++ by2 (hexV p)).length == 16) none (tail2 (colM k) (b ++ by2 (hexV p)) g r') = _
    rw [show ((58 : Int) != 58) = false from rfl, Bool.false_or, hl]
    by_cases h16 : b.length = 14
    ·rw [beq_iff_eq.2 (show b.length + 2 = 16 by omega), cond_true, decide_eq_false (show ¬ b.length + 2 * ((splitI r' 58).length + 1) <= 14 by omega), Bool.and_false]; rfl
    ·rw [beq_eq_false_iff_ne.2 (show b.length + 2 ≠ 16 by omega), cond_false]
     cases r' with
     | nil => rfl
     | cons d r2 =>
      show cond (d != 58) (colM k (b ++ by2 (hexV p)) g (d :: r2)) (cond (decide (0 <= g)) none _) = _
      by_cases hd : d = 58
      ·subst hd
       rw [show ((58 : Int) != 58) = false from rfl, cond_false, decide_eq_true hg, cond_true]
       have : splitI (58 :: r2) 58 = [] :: splitI r2 58 := split_pc [] r2 (fun _ h => by cases h)
       rw [this, List.all_cons, hexB_nil]; rfl
      ·rw [bne_iff_ne.2 hd, cond_true]
       have hlen : (p ++ 58 :: d :: r2).length = p.length + (r2.length + 2) := by rw [List.length_append]; rfl
       rw [col_gap k (b ++ by2 (hexV p)) g (d :: r2) (by simp at hlen hk ⊢; omega) hg (by omega) (by omega), hl, bytesP_cons, List.append_assoc]
       rw [show b.length + 2 * ((splitI (d :: r2) 58).length + 1) = b.length + 2 + 2 * (splitI (d :: r2) 58).length by omega]
def dcI : List Int -> Option Nat
 | [] => none
 | c :: r => cond (c == 58 && r.head? == some 58) (some 0) ((dcI r).map (· + 1))
theorem dc_p : ∀ (p rest : List Int), (∀ c ∈ p, c ≠ 58) -> dcI (p ++ rest) = (dcI rest).map (· + p.length)
 | [], rest, _ => by simp
 | c :: p, rest, h => by
  show cond (c == 58 && _) _ ((dcI (p ++ rest)).map (· + 1)) = _
  rw [beq_eq_false_iff_ne.2 (h c List.mem_cons_self), Bool.false_and, cond_false, dc_p p rest fun x hx => h x (List.mem_cons_of_mem _ hx), Option.map_map]
  congr 1
def partsO (r : List Int) : List (List Int) := cond (r == []) [] (splitI r 58)
def grpR (b : List Int) (r : List Int) : Option (List Int) := match dcI r with
  | none => cond ((splitI r 58).all hexGB && (b.length + 2 * (splitI r 58).length == 16)) (some (b ++ bytesP (splitI r 58))) none
  | some i => cond ((partsO (r.take i)).all hexGB && (partsO (r.drop (i + 2))).all hexGB && decide (b.length + 2 * (partsO (r.take i)).length + 2 * (partsO (r.drop (i + 2))).length <= 14))
      (some (insZ (b ++ bytesP (partsO (r.take i)) ++ bytesP (partsO (r.drop (i + 2)))) (b.length + 2 * (partsO (r.take i)).length))) none
theorem partsO_ne {r : List Int} (h : r ≠ []) : partsO r = splitI r 58 := by
 unfold partsO
 rw [beq_eq_false_iff_ne.2 h, cond_false]
theorem col_nogap : ∀ (k : Nat) (b : List Int) (r : List Int), r.length < k -> b.length <= 14 -> b.length % 2 = 0 -> dcI r ≠ some 0 -> colM k b (-1) r = grpR b r
 | 0, _, _, h, _, _, _ => absurd h (Nat.not_lt_zero _)
 | k + 1, b, r, hk, hb, he, hd0 => by
  obtain ⟨p, rest, rfl, hp, hr⟩ := part_ex r
  rw [col_part k b (-1) p rest hp hr]
  have hl := len2 b (hexV p)
  have hdc := dc_p p rest hp
  rcases stop_split hp hr with ⟨rfl, hs⟩ | ⟨r', rfl, hs⟩
  ·unfold grpR
   rw [hdc]
   show _ = cond ((splitI (p ++ []) 58).all hexGB && (b.length + 2 * (splitI (p ++ []) 58).length == 16)) (some (b ++ bytesP (splitI (p ++ []) 58))) none
   rw [hs, show [p].all hexGB = hexGB p by simp]
   cases hexGB p with
   | false => rfl
   | true =>
    show overM (b ++ by2 (hexV p)) (-1) = cond (b.length + 2 * 1 == 16) (some (b ++ (by2 (hexV p) ++ []))) none
    unfold overM
    rw [hl, List.append_nil]; rfl
  ·-- a colon
   have hlen : (p ++ 58 :: r').length = p.length + (r'.length + 1) := by rw [List.length_append]; rfl
   have hne : ∀ i, p.length <= i -> (p ++ 58 :: r').take i = p ++ (58 :: r').take (i - p.length) := fun i hi => by
    rw [List.take_append, List.take_of_length_le hi]
   have hnd : ∀ i, p.length <= i -> (p ++ 58 :: r').drop i = (58 :: r').drop (i - p.length) := fun i hi => by
    rw [List.drop_append, List.drop_of_length_le hi]; rfl
   by_cases hdd : r'.head? = some 58
   ·-- two colons
    obtain ⟨r2, rfl⟩ : ∃ r2, r' = 58 :: r2 := by
     cases r' with
     | nil => cases hdd
     | cons x r2 => injection hdd with hdd; exact ⟨r2, by rw [hdd]⟩
    have hdc0 : dcI (58 :: 58 :: r2) = some 0 := rfl
    rw [hdc0] at hdc
    have hdc : dcI (p ++ 58 :: 58 :: r2) = some p.length := by rw [hdc]; simp
    have hpne : p ≠ [] := fun e => hd0 (by rw [hdc, e]; rfl)
    unfold grpR
    rw [hdc]
    show _ = cond ((partsO ((p ++ 58 :: 58 :: r2).take p.length)).all hexGB && (partsO ((p ++ 58 :: 58 :: r2).drop (p.length + 2))).all hexGB && decide (b.length + 2 * (partsO ((p ++ 58 :: 58 :: r2).take p.length)).length + 2 * (partsO ((p ++ 58 :: 58 :: r2).drop (p.length + 2))).length <= 14))
     (some (insZ (b ++ bytesP (partsO ((p ++ 58 :: 58 :: r2).take p.length)) ++ bytesP (partsO ((p ++ 58 :: 58 :: r2).drop (p.length + 2)))) (b.length + 2 * (partsO ((p ++ 58 :: 58 :: r2).take p.length)).length))) none
    rw [List.take_left, hnd (p.length + 2) (by omega), show p.length + 2 - p.length = 2 by omega, show (58 :: 58 :: r2 : List Int).drop 2 = r2 from rfl, partsO_ne hpne, split_p p hp]
    rw [show [p].all hexGB = hexGB p by simp]
    cases hexGB p with
    | false => rfl
    | true =>
     rw [cond_true, Bool.true_and]
     show cond ((58 : Int) != 58 || (b ++ by2 (hexV p)).length == 16) none (cond ((58 : Int) != 58) (colM k (b ++ by2 (hexV p)) (-1) (58 :: r2)) (cond (decide ((0 : Int) <= -1)) none (tail3 (colM k) (b ++ by2 (hexV p)) r2))) = _
     rw [show ((58 : Int) != 58) = false from rfl, Bool.false_or, cond_false, show decide ((0 : Int) <= -1) = false from rfl, cond_false, hl]
     show cond (b.length + 2 == 16) none _ = cond ((partsO r2).all hexGB && decide (b.length + 2 * 1 + 2 * (partsO r2).length <= 14)) (some (insZ (b ++ (by2 (hexV p) ++ []) ++ bytesP (partsO r2)) (b.length + 2 * 1))) none
     rw [List.append_nil]
     by_cases h16 : b.length = 14
     ·rw [beq_iff_eq.2 (show b.length + 2 = 16 by omega), cond_true, decide_eq_false (show ¬ b.length + 2 * 1 + 2 * (partsO r2).length <= 14 by omega), Bool.and_false]; rfl
     ·rw [beq_eq_false_iff_ne.2 (show b.length + 2 ≠ 16 by omega), cond_false]
      cases r2 with
      | nil =>
       show overM (b ++ by2 (hexV p)) ((b ++ by2 (hexV p)).length : Int) = cond (true && decide (b.length + 2 * 1 + 2 * 0 <= 14)) (some (insZ (b ++ by2 (hexV p) ++ []) (b.length + 2 * 1))) none
       unfold overM
       rw [hl, List.append_nil, decide_eq_false (show ¬ ((b.length + 2 : Nat) : Int) < 0 by omega), cond_false, decide_eq_false (show ¬ 16 <= b.length + 2 by omega), cond_false, decide_eq_true (show b.length + 2 * 1 + 2 * 0 <= 14 by omega), Int.toNat_natCast]; rfl
      | cons e r3 =>
       show colM k (b ++ by2 (hexV p)) ((b ++ by2 (hexV p)).length : Int) (e :: r3) = _
       have hkk : (e :: r3).length < k := by rw [hlen] at hk; simp at hk ⊢; omega
       rw [col_gap k _ _ _ hkk (by omega) (by omega) (by omega), partsO_ne (by simp), hl, Int.toNat_natCast, show b.length + 2 * 1 = b.length + 2 by omega]
   ·-- one colon
    have hdc1 : dcI (58 :: r') = (dcI r').map (· + 1) := by
     show cond ((58 : Int) == 58 && r'.head? == some 58) _ _ = _
     rw [beq_eq_false_iff_ne.2 hdd, Bool.and_false, cond_false]
    rw [hdc1] at hdc
    have hr'0 : dcI r' ≠ some 0 := fun e => by
     cases r' with
     | nil => cases e
     | cons x r2 =>
      have e' : cond (x == 58 && r2.head? == some 58) (some 0) ((dcI r2).map (· + 1)) = some 0 := e
      cases hx : x == 58 with
      | true => exact hdd (by rw [beq_iff_eq.1 hx]; rfl)
      | false =>
       rw [hx, Bool.false_and, cond_false] at e'
       obtain ⟨q, _, hq⟩ := Option.map_eq_some_iff.1 e'
       omega
    have hnn := split_nn r'
    unfold grpR
    rw [hdc]
    cases hdr : dcI r' with
    | none =>
     show _ = cond ((splitI (p ++ 58 :: r') 58).all hexGB && (b.length + 2 * (splitI (p ++ 58 :: r') 58).length == 16)) (some (b ++ bytesP (splitI (p ++ 58 :: r') 58))) none
     rw [hs, List.all_cons, List.length_cons]
     cases hexGB p with
     | false => rfl
     | true =>
      rw [cond_true, Bool.true_and]
      show cond ((58 : Int) != 58 || (b ++ by2 (hexV p)).length == 16) none (tail2 (colM k) (b ++ by2 (hexV p)) (-1) r') = _
      rw [show ((58 : Int) != 58) = false from rfl, Bool.false_or, hl]
      by_cases h16 : b.length = 14
      ·rw [beq_iff_eq.2 (show b.length + 2 = 16 by omega), cond_true, beq_eq_false_iff_ne.2 (show b.length + 2 * ((splitI r' 58).length + 1) ≠ 16 by omega), Bool.and_false]; rfl
      ·rw [beq_eq_false_iff_ne.2 (show b.length + 2 ≠ 16 by omega), cond_false]
       cases r' with
       | nil => rfl
       | cons d r2 =>
        have hd : d ≠ 58 := fun e => hdd (by rw [e]; rfl)
        show cond (d != 58) (colM k (b ++ by2 (hexV p)) (-1) (d :: r2)) _ = _
        rw [bne_iff_ne.2 hd, cond_true]
        have hkk : (d :: r2).length < k := by rw [hlen] at hk; omega
        rw [col_nogap k (b ++ by2 (hexV p)) (d :: r2) hkk (by omega) (by omega) hr'0]
        unfold grpR
        rw [hdr]
        show cond (_ && ((b ++ by2 (hexV p)).length + _ == 16)) _ _ = _
        rw [hl, bytesP_cons, List.append_assoc, show b.length + 2 * ((splitI (d :: r2) 58).length + 1) = b.length + 2 + 2 * (splitI (d :: r2) 58).length by omega]
    | some i =>
     have ei : ((some i).map (· + 1)).map (· + p.length) = some (i + 1 + p.length) := rfl
     rw [ei]
     show _ = cond ((partsO ((p ++ 58 :: r').take (i + 1 + p.length))).all hexGB && (partsO ((p ++ 58 :: r').drop (i + 1 + p.length + 2))).all hexGB && decide (b.length + 2 * (partsO ((p ++ 58 :: r').take (i + 1 + p.length))).length + 2 * (partsO ((p ++ 58 :: r').drop (i + 1 + p.length + 2))).length <= 14))
      (some (insZ (b ++ bytesP (partsO ((p ++ 58 :: r').take (i + 1 + p.length))) ++ bytesP (partsO ((p ++ 58 :: r').drop (i + 1 + p.length + 2)))) (b.length + 2 * (partsO ((p ++ 58 :: r').take (i + 1 + p.length))).length))) none
     rw [hne (i + 1 + p.length) (by omega), hnd (i + 1 + p.length + 2) (by omega), show i + 1 + p.length - p.length = i + 1 by omega, show i + 1 + p.length + 2 - p.length = (i + 2) + 1 by omega]
     rw [show (58 :: r' : List Int).take (i + 1) = 58 :: r'.take i from rfl, show (58 :: r' : List Int).drop (i + 2 + 1) = r'.drop (i + 2) from rfl]
     rw [partsO_ne (r := p ++ 58 :: r'.take i) (by simp), split_pc p _ hp, List.all_cons, List.length_cons]
     have hi0 : i ≠ 0 := fun e => hr'0 (by rw [hdr, e])
     cases r' with
     | nil => cases hdr
     | cons d r2 =>
      have htk : (d :: r2).take i ≠ [] := by
       obtain ⟨j, rfl⟩ : ∃ j, i = j + 1 := ⟨i - 1, by omega⟩
       simp
      have hnn2 := split_nn ((d :: r2).take i)
      cases hexGB p with
      | false => rfl
      | true =>
       rw [cond_true, Bool.true_and]
       show cond ((58 : Int) != 58 || (b ++ by2 (hexV p)).length == 16) none (tail2 (colM k) (b ++ by2 (hexV p)) (-1) (d :: r2)) = _
       rw [show ((58 : Int) != 58) = false from rfl, Bool.false_or, hl]
       by_cases h16 : b.length = 14
       ·rw [beq_iff_eq.2 (show b.length + 2 = 16 by omega), cond_true, decide_eq_false (by omega), Bool.and_false]; rfl
       ·rw [beq_eq_false_iff_ne.2 (show b.length + 2 ≠ 16 by omega), cond_false]
        have hd : d ≠ 58 := fun e => hdd (by rw [e]; rfl)
        show cond (d != 58) (colM k (b ++ by2 (hexV p)) (-1) (d :: r2)) _ = _
        rw [bne_iff_ne.2 hd, cond_true]
        have hkk : (d :: r2).length < k := by rw [hlen] at hk; omega
        rw [col_nogap k (b ++ by2 (hexV p)) (d :: r2) hkk (by omega) (by omega) hr'0]
        unfold grpR
        rw [hdr]
        show cond ((partsO ((d :: r2).take i)).all hexGB && (partsO ((d :: r2).drop (i + 2))).all hexGB && decide ((b ++ by2 (hexV p)).length + 2 * (partsO ((d :: r2).take i)).length + 2 * (partsO ((d :: r2).drop (i + 2))).length <= 14))
         (some (insZ (b ++ by2 (hexV p) ++ bytesP (partsO ((d :: r2).take i)) ++ bytesP (partsO ((d :: r2).drop (i + 2)))) ((b ++ by2 (hexV p)).length + 2 * (partsO ((d :: r2).take i)).length))) none = _
        rw [partsO_ne htk, hl, bytesP_cons, <- List.append_assoc b, show b.length + 2 * ((splitI ((d :: r2).take i) 58).length + 1) = b.length + 2 + 2 * (splitI ((d :: r2).take i) 58).length by omega]
theorem colR_eq (s : List Int) : colR s = grpR [] s := by
 unfold colR
 match s with
 | [] => rfl
 | [x] =>
  rw [show (([x] : List Int).take 2 == [58, 58]) = false from beq_eq_false_iff_ne.2 fun e => by simp at e, cond_false]
  have h0 : dcI [x] ≠ some 0 := fun e => by
   have e' : cond (x == 58 && false) (some 0) ((dcI []).map (· + 1)) = some 0 := e
   rw [Bool.and_false] at e'
   cases e'
  exact col_nogap 2 [] [x] (by simp) (by simp) rfl h0
 | x :: y :: r =>
  have htk : (x :: y :: r).take 2 = [x, y] := rfl
  have hdp : (x :: y :: r).drop 2 = r := rfl
  rw [htk, hdp]
  by_cases hxy : x = 58 /\ y = 58
  ·obtain ⟨rfl, rfl⟩ := hxy
   rw [show (([58, 58] : List Int) == [58, 58]) = true from rfl, cond_true]
   have hg : grpR [] (58 :: 58 :: r) = cond (true && (partsO r).all hexGB && decide (0 + 2 * 0 + 2 * (partsO r).length <= 14)) (some (insZ ([] ++ [] ++ bytesP (partsO r)) (0 + 2 * 0))) none := rfl
   rw [hg]
   cases r with
   | nil => rfl
   | cons e r3 =>
    rw [show ((e :: r3) == ([] : List Int)) = false from rfl, cond_false, col_gap _ [] 0 (e :: r3) (by simp) (by omega) (by simp) rfl, partsO_ne (by simp)]
    rw [Bool.true_and, List.nil_append, List.nil_append]
    rfl
  ·have hne : (([x, y] : List Int) == [58, 58]) = false := beq_eq_false_iff_ne.2 fun e => hxy (by injection e with e1 e2; injection e2 with e2; exact ⟨e1, e2⟩)
   rw [hne, cond_false]
   refine col_nogap _ [] _ (Nat.lt_succ_self _) (by simp) rfl fun e => ?_
   have e' : cond (x == 58 && (some y == some 58)) (some 0) ((dcI (y :: r)).map (· + 1)) = some 0 := e
   cases hb : (x == 58 && (some y == some 58)) with
   | true =>
    rw [Bool.and_eq_true, beq_iff_eq, beq_iff_eq] at hb
    exact hxy ⟨hb.1, by injection hb.2⟩
   | false =>
    rw [hb, cond_false] at e'
    obtain ⟨q, _, hq⟩ := Option.map_eq_some_iff.1 e'
    omega
theorem dc_lt : ∀ {s : List Int} {i : Nat}, dcI s = some i -> i + 2 <= s.length
 | [], _, h => by cases h
 | c :: r, i, h => by
  have hu : cond (c == 58 && r.head? == some 58) (some 0) ((dcI r).map (· + 1)) = some i := h
  cases hb : (c == 58 && r.head? == some 58) with
  | true =>
   rw [hb, cond_true] at hu
   injection hu with hu
   rw [Bool.and_eq_true, beq_iff_eq, beq_iff_eq] at hb
   cases r with
   | nil => cases hb.2
   | cons d r => rw [<- hu]; simp
  | false =>
   rw [hb, cond_false] at hu
   obtain ⟨j, hj, rfl⟩ := Option.map_eq_some_iff.1 hu
   have := dc_lt hj
   simp
   omega
def preM : List Int := [0, 0, 0, 0, 0, 0, 0, 0, 0, 0, 255, 255]
def plainR (x : List Int) : List Int := cond (decide (12 <= x.length) && (x.take 12 == preM)) (x.drop 12) x
theorem Plain_eq (s : List Int) (hs : s.length <= 1000000) : F_addr_Plain s = some (plainR s) := by
 have hp := prefix_lit s preM hs
 unfold F_strings_HasPrefix at hp
 have hp2 : F_internal_stringslite_HasPrefix s preM = some (decide (preM.length <= s.length) && (s.take preM.length == preM)) := by
  cases hq : F_internal_stringslite_HasPrefix s preM with
  | none => rw [hq] at hp; cases hp
  | some b => rw [hq] at hp; exact hp
 unfold F_addr_Plain F_strings_TrimPrefix F_internal_stringslite_TrimPrefix
 show (((F_internal_stringslite_HasPrefix s preM).bind _).bind _).bind _ = _
 rw [hp2, Option.bind_some]
 unfold plainR
 have e12 : preM.length = 12 := rfl
 rw [e12]
 cases hb : (decide (12 <= s.length) && (s.take 12 == preM)) with
 | false => rfl
 | true =>
  rw [Bool.and_eq_true, decide_eq_true_iff] at hb
  rw [cond_true, cond_true]
  have h := cutI_nat (s := s) (a := 12) (b := s.length) hb.1 (by omega)
  rw [List.take_length] at h
  have h : cutI s (([0, 0, 0, 0, 0, 0, 0, 0, 0, 0, 255, 255] : List Int).length : Int) (s.length : Int) = some (s.drop 12) := h
  rw [h]; rfl
def sumPa (l : List (List Int)) : Nat := l.foldr (fun p n => p.length + 1 + n) 0
theorem split_sum : ∀ (t : List Int) (c : Int), sumPa (splitI t c) = t.length + 1
 | [], _ => rfl
 | x :: t, c => by
  have ih := split_sum t c
  unfold splitI
  cases x == c with
  | true =>
   show 0 + 1 + sumPa (splitI t c) = _
   rw [ih, List.length_cons]; omega
  | false =>
   rw [cond_false]
   have hne := splitI_ne t c
   cases hq : splitI t c with
   | nil => exact absurd hq hne
   | cons w q =>
    rw [hq] at ih
    have ih : w.length + 1 + sumPa q = t.length + 1 := ih
    show (x :: w).length + 1 + sumPa q = _
    rw [List.length_cons, List.length_cons]; omega
theorem sum_hex : ∀ l : List (List Int), l.all hexGB = true -> sumPa l <= 5 * l.length
 | [], _ => by simp [sumPa]
 | p :: l, h => by
  rw [List.all_cons, Bool.and_eq_true] at h
  have ih := sum_hex l h.2
  have h4 : p.length <= 4 := by
   have := h.1
   unfold hexGB at this
   simp only [Bool.and_eq_true, decide_eq_true_eq] at this
   exact this.1.2
  show p.length + 1 + sumPa l <= 5 * (l.length + 1)
  omega
theorem parts_hex (t : List Int) (h : (partsO t).all hexGB = true) : t.length <= 5 * (partsO t).length := by
 by_cases h0 : t = []
 ·subst h0; simp
 ·rw [partsO_ne h0] at h ⊢
  have h1 := sum_hex _ h
  rw [split_sum] at h1
  omega
theorem grp_16 {s x : List Int} (h : grpR [] s = some x) : x.length = 16 /\ s.length <= 50 := by
 unfold grpR at h
 split at h
 ·cases hc : ((splitI s 58).all hexGB && (([] : List Int).length + 2 * (splitI s 58).length == 16)) with
  | false => rw [hc] at h; cases h
  | true =>
   rw [hc, cond_true] at h
   injection h with h
   rw [Bool.and_eq_true, beq_iff_eq] at hc
   have h2 : 0 + 2 * (splitI s 58).length = 16 := hc.2
   have h1 := sum_hex _ hc.1
   rw [split_sum] at h1
   refine ⟨?_, by omega⟩
   rw [<- h, List.nil_append, bytesP_len]
   omega
 ·rename_i i hd
  have hi := dc_lt hd
  cases hc : ((partsO (s.take i)).all hexGB && (partsO (s.drop (i + 2))).all hexGB && decide (([] : List Int).length + 2 * (partsO (s.take i)).length + 2 * (partsO (s.drop (i + 2))).length <= 14)) with
  | false => rw [hc] at h; cases h
  | true =>
   rw [hc, cond_true] at h
   injection h with h
   simp only [Bool.and_eq_true, decide_eq_true_eq] at hc
   have h2 : 0 + 2 * (partsO (s.take i)).length + 2 * (partsO (s.drop (i + 2))).length <= 14 := hc.2
   have h3 := parts_hex _ hc.1.1
   have h4 := parts_hex _ hc.1.2
   rw [List.length_take] at h3
   rw [List.length_drop] at h4
   have e1 : ([] ++ bytesP (partsO (s.take i)) ++ bytesP (partsO (s.drop (i + 2)))).length = 2 * (partsO (s.take i)).length + 2 * (partsO (s.drop (i + 2))).length := by
    rw [List.nil_append, List.length_append, bytesP_len, bytesP_len]
   refine ⟨?_, by omega⟩
   rw [<- h]
   exact insZ_len (by rw [e1]; show 0 + _ <= _; omega) (by rw [e1]; omega)
noncomputable def parseR (s : List Int) : List Int × Int := cond (fourR s).2 ((fourR s).1, 0) (match grpR [] s with | some x => (plainR x, 0) | none => ([], 2))
theorem Parse_eq (s : List Int) (hs : s.length <= 1000000) : F_addr_Parse s = some (parseR s) := by
 unfold F_addr_Parse parseR
 rw [dotted_eq s hs, Option.bind_some]
 cases h4 : (fourR s).2 with
 | true => rfl
 | false =>
  rw [Bool.not_false, cond_true, cond_false]
  have hr := coloned_rel s hs
  rw [colR_eq] at hr
  cases hg : grpR [] s with
  | some x =>
   rw [hg] at hr
   have hr : F_addr_coloned s = some (x, true) := hr
   rw [hr, Option.bind_some, Plain_eq x (by have := (grp_16 hg).1; omega)]
   rfl
  | none =>
   rw [hg] at hr
   obtain ⟨v, hv, hl⟩ := hr
   rw [hv, Option.bind_some, Plain_eq v (by omega)]
   rfl
theorem sg_spec (c : Int) : sg c = if 65 <= c /\ c <= 90 then c + 32 else if (97 <= c /\ c <= 122) \/ (48 <= c /\ c <= 57) \/ c = 45 \/ c = 95 then c else 0 := by
 have h := sign_eq c
 unfold F_host_sign at h
 by_cases h1 : 65 <= c /\ c <= 90
 ·rw [decide_eq_true h1.1, decide_eq_true h1.2, u8_in (x := c + 97) (by omega) (by omega), u8_in (by omega) (by omega)] at h
  have h : some (c + 97 - 65) = some (sg c) := h
  injection h with h
  rw [if_pos h1]
  omega
 ·have e1 : (decide (c >= 65) && decide (c <= 90)) = false := by simp; omega
  rw [e1, cond_false] at h
  rw [if_neg h1]
  by_cases h2 : 97 <= c /\ c <= 122
  ·rw [decide_eq_true h2.1, decide_eq_true h2.2] at h
   have h : some c = some (sg c) := h
   injection h with h
   rw [if_pos (.inl h2)]
   exact h.symm
  ·have e2 : (decide (c >= 97) && decide (c <= 122)) = false := by simp; omega
   rw [e2, cond_false] at h
   by_cases h3 : 48 <= c /\ c <= 57
   ·rw [decide_eq_true h3.1, decide_eq_true h3.2] at h
    have h : some c = some (sg c) := h
    injection h with h
    rw [if_pos (.inr (.inl h3))]
    exact h.symm
   ·have e3 : (decide (c >= 48) && decide (c <= 57)) = false := by simp; omega
    rw [e3, cond_false] at h
    by_cases h4 : c = 45
    ·subst h4
     exact (by kernel_rfl : sg 45 = 45)
    ·rw [beq_eq_false_iff_ne.2 h4, cond_false] at h
     by_cases h5 : c = 95
     ·subst h5
      exact (by kernel_rfl : sg 95 = 95)
     ·rw [beq_eq_false_iff_ne.2 h5, cond_false] at h
      have h : some (0 : Int) = some (sg c) := h
      injection h with h
      rw [if_neg (by omega)]
      exact h.symm
noncomputable def lowI (c : Int) : Int := cond (c == 46) 46 (sg c)
theorem name_some : ∀ (s out : List Int) (n : Nat) (b : List Int), nameP out n s = some b -> b = out ++ s.map lowI /\ (∀ c ∈ s, c = 46 \/ sg c ≠ 0) /\ (n = 0 -> s ≠ [])
 | [], out, n, b, h => by
  rw [nameP] at h
  cases he : endsB out n with
  | true => rw [he] at h; cases h
  | false =>
   rw [he] at h
   have h : some out = some b := h
   injection h with h
   refine ⟨by simp [h], by simp, fun h0 => ?_⟩
   subst h0
   cases he
 | c :: s, out, n, b, h => by
  rw [nameP] at h
  cases h46 : c == 46 with
  | true =>
   rw [h46, cond_true] at h
   have hc := beq_iff_eq.1 h46
   cases he : endsB out n with
   | true => rw [he] at h; cases h
   | false =>
    rw [he, cond_false] at h
    obtain ⟨h1, h2, _⟩ := name_some s _ _ _ h
    refine ⟨by rw [h1, List.append_assoc, List.map_cons]; congr 1; show 46 :: _ = lowI c :: _; unfold lowI; rw [h46]; rfl, fun x hx => ?_, fun _ => by simp⟩
    rcases List.mem_cons.1 hx with rfl | hx
    ·exact .inl hc
    ·exact h2 x hx
  | false =>
   rw [h46, cond_false] at h
   cases hb : (sg c == 0 || n == 63 || (sg c == 45 && n == 0)) with
   | true => rw [hb] at h; cases h
   | false =>
    rw [hb, cond_false] at h
    obtain ⟨h1, h2, _⟩ := name_some s _ _ _ h
    refine ⟨by rw [h1, List.append_assoc, List.map_cons]; congr 1; show sg c :: _ = lowI c :: _; unfold lowI; rw [h46]; rfl, fun x hx => ?_, fun _ => by simp⟩
    rcases List.mem_cons.1 hx with rfl | hx
    ·right
     rw [Bool.or_assoc, Bool.or_eq_false_iff] at hb
     exact beq_eq_false_iff_ne.1 hb.1
    ·exact h2 x hx
def isB (x : Int) : Prop := 0 <= x /\ x < 256
def keepB (x : Int) (k : Nat) : Int := x / 2 ^ (8 - k) * 2 ^ (8 - k)
def nbits (b : Int) (i : Nat) : Nat := min (b - 8 * i).toNat 8
def keptL (b : Int) : Nat -> List Int -> List Int
 | _, [] => []
 | i, x :: r => keepB x (nbits b i) :: keptL b (i + 1) r
theorem mask_all : (List.range 256).all (fun x => (List.range 9).all fun k => bits .and .u8 (x : Int) (IntKind.u8.wrap (Int.fdiv 65280 (2 ^ (min k 64)))) == keepB x k) = true := by kernel_rfl
theorem mask_eq {x : Int} (hx : isB x) {k : Nat} (hk : k <= 8) : bits .and .u8 x (IntKind.u8.wrap (Int.fdiv 65280 (2 ^ (min k 64)))) = keepB x k := by
 have h := List.all_eq_true.1 (List.all_eq_true.1 mask_all x.toNat (List.mem_range.2 (by obtain ⟨_, _⟩ := hx; omega))) k (List.mem_range.2 (by omega))
 have e : ((x.toNat : Nat) : Int) = x := Int.toNat_of_nonneg hx.1
 rw [e] at h
 exact beq_iff_eq.1 h
theorem nb_eq (b : Int) (i : Nat) (hb : -1000000 <= b /\ b <= 1000000) (hi : i <= 1000000) : (minI (maxI (IntKind.i64.wrap (b - (IntKind.i64.wrap (8 * (i : Int))))) 0) 8) = (nbits b i : Int) := by
 rw [wrap_in (x := 8 * (i : Int)) (by omega) (by omega), wrap_in (by omega) (by omega)]
 unfold minI maxI nbits
 by_cases h : (0 : Int) > b - 8 * i
 ·rw [decide_eq_true h, cond_true, decide_eq_false (by omega), cond_false]; omega
 ·rw [decide_eq_false h, cond_false]
  by_cases h8 : (8 : Int) < b - 8 * i
  ·rw [decide_eq_true h8, cond_true]; omega
  ·rw [decide_eq_false h8, cond_false]; omega
theorem set_mid (pre : List Int) (x v : Int) (r : List Int) : (pre ++ x :: r).set pre.length v = pre ++ v :: r := by
 rw [List.set_append_right _ _ (Nat.le_refl _), Nat.sub_self]; rfl
theorem kept_loop (s : List Int) (b : Int) (hb : -1000000 <= b /\ b <= 1000000) (hs : s.length <= 1000000) : ∀ (r pre : List Int), s.length = pre.length + r.length -> (∀ x ∈ r, isB x) -> loopC (F_addr_kept_L4 s b) ((pre.length : Int), pre ++ r) = some (.inr (pre ++ keptL b pre.length r))
 | [], pre, hl, _ => by
  refine loop_inl ?_
  unfold F_addr_kept_L4
  dsimp only
  rw [decide_eq_false (by rw [hl]; simp), cond_false]
  rfl
 | x :: r, pre, hl, hr => by
  have hl' : s.length = pre.length + (r.length + 1) := hl
  have ih := kept_loop s b hb hs r (pre ++ [keepB x (nbits b pre.length)]) (by rw [List.length_append]; simp; omega) (fun y hy => hr y (List.mem_cons_of_mem _ hy))
  refine loop_inr (s' := (((pre ++ [keepB x (nbits b pre.length)]).length : Int), (pre ++ [keepB x (nbits b pre.length)]) ++ r)) ?_ (ih.trans ?_)
  ·unfold F_addr_kept_L4 chk
   dsimp only
   have h1 : (decide ((0 : Int) <= (pre.length : Int)) && decide ((pre.length : Int) < (s.length : Int))) = true := by simp; omega
   have h2 : decide ((pre.length : Int) < (s.length : Int)) = true := decide_eq_true (by omega)
   have hg : getI (pre ++ x :: r) (pre.length : Int) = some x := getI_nat (by simp)
   have h3 : decide ((pre.length : Int) < ((pre ++ x :: r).length : Int)) = true := decide_eq_true (by rw [List.length_append, List.length_cons]; omega)
   rw [h1, h2, cond_true, cond_true, hg, Option.bind_some, nb_eq b pre.length hb (by omega), decide_eq_true (show (0 : Int) <= (nbits b pre.length : Int) by omega), cond_true, cond_true, h3, cond_true]
   rw [Int.toNat_natCast, Int.toNat_natCast, mask_eq (hr x List.mem_cons_self) (show nbits b pre.length <= 8 by unfold nbits; omega), set_mid, wrap_in (by omega) (by omega)]
   have e : ((pre ++ [keepB x (nbits b pre.length)]).length : Int) = (pre.length : Int) + 1 := by rw [List.length_append]; simp
   rw [e, List.append_assoc]; rfl
  ·rw [show (pre ++ [keepB x (nbits b pre.length)]).length = pre.length + 1 by simp, List.append_assoc]
   rfl
theorem keptL_len (b : Int) : ∀ (r : List Int) (i : Nat), (keptL b i r).length = r.length
 | [], _ => rfl
 | _ :: r, i => by show (keptL b (i + 1) r).length + 1 = _; rw [keptL_len b r]; rfl
theorem kept_eq (s : List Int) (b : Int) (hb : -1000000 <= b /\ b <= 1000000) (hs : s.length <= 1000000) (hB : ∀ x ∈ s, isB x) : F_addr_kept s b = some (keptL b 0 s) := by
 have h : loopC (F_addr_kept_L4 s b) (0, s) = some (.inr (keptL b 0 s)) := kept_loop s b hb hs s [] (by simp) hB
 unfold F_addr_kept
 rw [join_inr (s := keptL b 0 s) h]
 unfold F_addr_kept_J2
 dsimp only
 have hl := keptL_len b s 0
 rw [show Nat.ble s.length (List.length (keptL b 0 s)) = true from Nat.ble_eq_true_of_le (Nat.le_of_eq hl.symm)]
 unfold chk
 rw [cond_true, List.take_of_length_le (Nat.le_of_eq hl)]
end Go.Proofs.YtgfmfgombmpodaaGreatDoor
