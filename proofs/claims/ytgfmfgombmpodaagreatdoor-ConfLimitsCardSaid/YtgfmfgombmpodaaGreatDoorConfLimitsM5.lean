/- Texts of this claim, one behind the other. -/
import Derived.Test.YtgfmfgombmpodaaGreatDoorConfLimitsM4
import Derived.Lib.Builder
import Derived.Laws.ResultCell
import Derived.Lib.ItoaMem
import Derived.Laws.BitsLemmas
set_option maxRecDepth 100000
namespace Go.Proofs.YtgfmfgombmpodaaGreatDoor
open Go.RowKit Pv
set_option linter.unusedVariables false
theorem lm_walk {T : Tab} (hf : Facts T) {lo : Nat} {w : World} {R M : Nat} {v : Value} {role : Nat → Role} {x : RSt} (h : RdAt lo w R M v role x) (hT : TabAt T w) (hlo : lo ≤ w.heap.size) {a : Option Addr} {n c : Nat} {ws : List ByteArray} (hn : ws.length = n) (hws : ∀ i s, ws[i]? = some s → ∃ ad, a = some ad ∧ w.cell? (ad.add i) = some (.string s) ∧ s.size ≤ maxLen) (hno : ∀ ad, a = some ad → role ad.block = .no) {x' : RSt} {e' : Bool} (hF : limitsP x (ws.map bytesL) = some (x', e')) :
    Calls Tryz.prog 95 #[.pointer (some ⟨R, 0, none⟩), .slice a n c] w fun e w' => LmPost lo R M x' e' e w w' := by
  by_cases h2 : n = 2
  · subst h2
    match ws, hn, hws, hF with
    | [s0, s1], _, hws, hF =>
    obtain ⟨ad, rfl, c0, z0⟩ := hws 0 s0 rfl
    obtain ⟨_, e1, c1, z1⟩ := hws 1 s1 rfl
    injection e1 with e1
    subst e1
    have c0 : w.cell? ad = some (.string s0) := by rw [lm_add_0] at c0; exact c0
    rw [lm_add_pos _ (by decide)] at c1
    have hF : cond (x.told.contains (bytesL s0)) (some (x, false)) (match limAt (bytesL s0) with
      | none => some (x, false)
      | some k => (F_conf_number (bytesL s1) (limLo k) (limHi k)).bind fun p => some (({ x.setLim k p.1 with told := x.told ++ [bytesL s0] } : RSt), p.2)) = some (x', e') := hF
    cases ht : x.told.contains (bytesL s0) with
    | true =>
      rw [ht] at hF
      injection hF with hF
      obtain ⟨rfl, rfl⟩ := Prod.mk.inj hF
      refine (lm_told h c0 ht).mono fun e w' ⟨q1, q2, q3⟩ => ⟨q1, q2, q3⟩
    | false =>
      rw [ht, cond_false] at hF
      exact lm_two hf h hT hlo c0 c1 z1 (hno ad rfl) ht hF
  · have hF : some (x, false) = some (x', e') := by
      rw [← hF]
      match ws, hn with
      | [], _ => rfl
      | [_], _ => rfl
      | [_, _], hn => exact absurd hn.symm h2
      | _ :: _ :: _ :: _, _ => rfl
    injection hF with hF
    obtain ⟨rfl, rfl⟩ := Prod.mk.inj hF
    exact lm_few h2
theorem strs_of : ∀ (l : List (List Int)) (cur : Array Value), (∀ (i : Nat) (y : List Int), l[i]? = some y → ∃ t : ByteArray, cur[i]? = some (.string t) ∧ bytesL t = y ∧ t.size ≤ maxLen) → ∃ ws : List ByteArray, ws.map bytesL = l ∧ ∀ (i : Nat) (t : ByteArray), ws[i]? = some t → cur[i]? = some (.string t) ∧ t.size ≤ maxLen := by
  intro l cur h
  have key : ∀ k, k ≤ l.length → ∃ ws : List ByteArray, ws.map bytesL = l.take k ∧ ∀ (i : Nat) (t : ByteArray), ws[i]? = some t → cur[i]? = some (.string t) ∧ t.size ≤ maxLen := by
    intro k
    induction k with
    | zero => exact fun _ => ⟨[], rfl, fun i t ht => by simp at ht⟩
    | succ k ih =>
      intro hk
      obtain ⟨ws, h1, h2⟩ := ih (by omega)
      have hget : l[k]? = some l[k] := List.getElem?_eq_getElem (by omega)
      obtain ⟨t, ht, ht2, ht3⟩ := h k _ hget
      have hl : ws.length = k := by
        have := congrArg List.length h1
        rw [List.length_map, List.length_take] at this
        omega
      refine ⟨ws ++ [t], ?_, fun i u hu => ?_⟩
      · rw [List.map_append, h1, List.take_add_one, hget, ← ht2]; rfl
      · rcases Nat.lt_or_ge i ws.length with hi | hi
        · rw [List.getElem?_append_left hi] at hu
          exact h2 i u hu
        · rw [List.getElem?_append_right hi] at hu
          have hi2 : i = k := by
            have := (List.getElem?_eq_some_iff.1 hu).1
            simp at this
            omega
          subst hi2
          rw [hl, Nat.sub_self] at hu
          injection hu with hu
          subst hu
          exact ⟨ht, ht3⟩
  obtain ⟨ws, h1, h2⟩ := key l.length (Nat.le_refl _)
  exact ⟨ws, by rw [h1, List.take_length], h2⟩
theorem split_calls {T : Tab} (hf : Facts T) {W : World} (hT : TabAt T W) {s : ByteArray} (hs : s.size ≤ maxLen) (hz : Nat.ble (bytesL s).length 4000000000 = true) :
    Calls Tryz.prog 94 #[.string s, .string ⟨#[32]⟩] W fun e W' => ∃ (B cap : Nat) (ws : List ByteArray), e = .returned (.slice (some ⟨B, 0, none⟩) ws.length cap) ∧ ws.map bytesL = splitI (bytesL s) 32 ∧ W.heap.size ≤ B ∧ B < W'.heap.size ∧ ws.length ≤ cap ∧ (∀ (i : Nat) (t : ByteArray), ws[i]? = some t → W'.cell? ⟨B, i, none⟩ = some (.string t) ∧ t.size ≤ maxLen) ∧ Below W.heap.size W W' := by
  have h : F_strings_Split (bytesL s) [32] = some (splitI (bytesL s) 32) := by
    unfold F_strings_Split
    dsimp only
    rw [hz]; rfl
  refine (fn_calls hT (s := F_strings_Split_sig) (al := [⟨false, flat .str (bytesL s), .string s⟩, ⟨false, flat .str (bytesL ⟨#[32]⟩), .string ⟨#[32]⟩⟩]) (y := (splitI (bytesL s) 32 : List (List Int))) (F_strings_Split_sound hf.maxlen) rfl Tryz.func94
    (List.forall_mem_cons.2 ⟨str_ok hs, List.forall_mem_cons.2 ⟨str_ok (by decide), fun a h => by cases h⟩⟩) (appF_c (appF_c (appF_n h)))).mono ?_
  obtain ⟨l, hl⟩ : ∃ l, splitI (bytesL s) 32 = l := ⟨_, rfl⟩
  have hne : l ≠ [] := by rw [← hl]; exact splitI_ne _ _
  rw [hl]
  rintro e W' ⟨us, g', st', rfl, h1, h2, h3, h4⟩
  have e2 : (exitSt F_strings_Split_sig (l : List (List Int))).map (fun st => (st.φ 0, st.O (.hd 0 0))) = some (.w false [.own (.hd 0 0) 9 .str l], true) := rfl
  rw [h2] at e2
  injection e2 with e2
  have q0 := h4 0
  rw [show st'.φ 0 = _ from congrArg Prod.fst e2] at q0
  have hO : st'.O (.hd 0 0) = true := congrArg Prod.snd e2
  obtain ⟨u, rfl⟩ : ∃ u, us = [u] := by
    match us, h1 with
    | [u], _ => exact ⟨u, rfl⟩
  obtain ⟨cs, g1, g2⟩ := q0
  have g2 : cs = [u] := g2
  subst g2
  obtain ⟨c1, c2, g3, ⟨hrd, hown⟩, g4⟩ := g1
  have g4 : c2 = [] := g4
  subst g4
  rw [List.append_nil] at g3
  subst g3
  obtain ⟨v, hv, hOw⟩ := hown hO
  injection hv with hv
  subst hv
  rcases hOw with ⟨a, _, hnil, _⟩ | ⟨bl, cap, cur, hv2, hblk, hcell, hlc, hcm, hcs, hel, hC, hW⟩
  · exact absurd hnil hne
  have hcs : cur.size = cap * 1 := hcs
  have hlc : l.length ≤ cap := hlc
  have hel2 : ∀ (i : Nat) (y : List Int), l[i]? = some y → ∃ t : ByteArray, cur[i]? = some (.string t) ∧ bytesL t = y ∧ t.size ≤ maxLen := fun i y hy => by
    obtain ⟨t, ht, ht2, ht3⟩ := hel i y hy
    have hi : i < l.length := (List.getElem?_eq_some_iff.1 hy).1
    have hic : i < cur.size := by omega
    refine ⟨t, ?_, ht2, ht3⟩
    rw [show (Ty.str).size = 1 from rfl, Nat.mul_one, List.drop_eq_getElem_cons (by simpa using hic)] at ht
    simp only [List.take_succ_cons, List.take_zero, List.cons.injEq, and_true, Array.getElem_toList] at ht
    rw [Array.getElem?_eq_getElem hic, ht]
  obtain ⟨ws, hwl, hw2⟩ : ∃ ws : List ByteArray, ws.map bytesL = l ∧ ∀ (i : Nat) (t : ByteArray), ws[i]? = some t → cur[i]? = some (.string t) ∧ t.size ≤ maxLen := strs_of l cur hel2
  have hwlen : ws.length = l.length := by rw [← hwl, List.length_map]
  refine ⟨bl, cap, ws, ?_, hwl, ?_, (Array.getElem?_eq_some_iff.1 hcell).1, by omega, fun i t ht => ?_, h3⟩
  · show Ending.returned u = _
    rw [hv2, hwlen]
    rfl
  · rcases hW _ (Nat.le_refl _) with h | h
    · exact h
    · exact h.elim
  · obtain ⟨k1, k2⟩ := hw2 i t ht
    exact ⟨by rw [cell_at hcell]; exact k1, k2⟩
def lbL : List Int := [108, 105, 109, 105, 116]
def lbU : List Int := [117, 115, 101, 114]
def lbA : List Int := [97, 108, 108, 111, 119]
def lbD : List Int := [100, 101, 110, 121]
theorem ln_lit (s : ByteArray) (l : List UInt8) : (s.toList == l) = (bytesL s == l.map byteI) := by
  have h := bytes_eq s ⟨l.toArray⟩
  have e : (⟨l.toArray⟩ : ByteArray).toList = l := by rw [toList_data]
  rw [e] at h
  exact h
noncomputable def lineW (x : RSt) (w0 : List Int) (ws : List (List Int)) : Option (RSt × Int) :=
  cond (w0 == lbL) ((limitsP x ws).map fun p => (p.1, cond p.2 0 2)) (cond (w0 == lbU) (userP x ws) (cond (w0 == lbA) (ruleP x true ws) (cond (w0 == lbD) (ruleP x false ws) (some (x, 2)))))
noncomputable def lineP (x : RSt) (s : List Int) : Option (RSt × Int) := cond (Nat.ble s.length 4000000000 && Nat.ble x.us.length 16) (match splitI s 32 with
  | [] => none
  | w0 :: ws => lineW x w0 ws) none
theorem tail1 {w : World} {B : Nat} {s0 : ByteArray} {ts : List ByteArray} (h : ∀ (i : Nat) (t : ByteArray), (s0 :: ts)[i]? = some t → w.cell? ⟨B, i, none⟩ = some (.string t) ∧ t.size ≤ maxLen) :
    ∀ i t, ts[i]? = some t → ∃ ad, some (⟨B, 1, none⟩ : Addr) = some ad ∧ w.cell? (ad.add i) = some (.string t) ∧ t.size ≤ maxLen := fun i t ht => by
  obtain ⟨h1, h2⟩ := h (i + 1) t ht
  refine ⟨⟨B, 1, none⟩, rfl, ?_, h2⟩
  rw [add_at, Nat.add_comm]
  exact h1
theorem tail0 {w : World} {a : Option Addr} {ts : List ByteArray} (h : ts.length = 0) :
    ∀ i t, ts[i]? = some t → ∃ ad, a = some ad ∧ w.cell? (ad.add i) = some (.string t) ∧ t.size ≤ maxLen := fun i t ht => by
  have := (List.getElem?_eq_some_iff.1 ht).1
  omega
theorem no_blk {role : Nat → Role} {B o : Nat} (h : role B = .no) : ∀ ad, some (⟨B, o, none⟩ : Addr) = some ad → role ad.block = .no := fun ad e => by
  injection e with e
  rw [← e]; exact h
theorem ws_cons {ws : List ByteArray} {w0 : List Int} {rest : List (List Int)} (h : ws.map bytesL = w0 :: rest) : ∃ s0 ts, ws = s0 :: ts ∧ bytesL s0 = w0 ∧ ts.map bytesL = rest := by
  cases ws with
  | nil => cases h
  | cons s0 ts =>
    injection h with h1 h2
    exact ⟨s0, ts, rfl, h1, h2⟩
set_option maxHeartbeats 16000000 in
set_option maxRecDepth 1000000 in
theorem line_lim {T : Tab} (hf : Facts T) {lo : Nat} {w : World} {R M : Nat} {v : Value} {role : Nat → Role} {x : RSt} (h : RdAt lo w R M v role x) (hT : TabAt T w) (hlo : lo ≤ w.heap.size) (few : x.us.length ≤ 16) {s : ByteArray} (hs : s.size ≤ maxLen) (hz : Nat.ble (bytesL s).length 4000000000 = true) {w0 : List Int} {rest : List (List Int)} (hspl : splitI (bytesL s) 32 = w0 :: rest) (hk : (w0 == ([108, 105, 109, 105, 116] : List UInt8).map byteI) = true ∧ True ∧ True ∧ True) {x' : RSt} {b : Bool} (hF : limitsP x rest = some (x', b)) :
    Calls Tryz.prog 54 #[.pointer (some ⟨R, 0, none⟩), .string s] w fun e w' => RdPost lo R M x' (cond b 0 2) e w w' := by
  have hsp := split_calls hf hT hs hz
  have HL : Aside (lo ≤ w.heap.size ∧ RdAt lo w R M v role x ∧ TabAt T w ∧ x.us.length ≤ 16) := ⟨hlo, h, hT, few⟩
  have HS : Aside (splitI (bytesL s) 32 = w0 :: rest) := hspl
  have HK : Aside ((w0 == ([108, 105, 109, 105, 116] : List UInt8).map byteI) = true ∧ True ∧ True ∧ True) := hk
  clear hlo h hT few hz hspl hk
  have HF : Aside (limitsP x rest = some (x', b)) := hF
  clear hF
  go_enter Tryz.func54, Tryz.ntmps54
  go_wp2_with (first
    | (go_at_call 94; (refine hsp.mono ?_; rintro e w1 ⟨B, cap, ws, rfl, hwl, hB, hBl, hcap, hcell, hb1⟩; obtain ⟨s0, ts, rfl, hs0, hts⟩ := ws_cons (hwl.trans HS.out); have c10 : w1.cell? ⟨B, 0, none⟩ = some (.string s0) := (hcell 0 s0 rfl).1; have hcap : ts.length + 1 ≤ cap := hcap; have HW : Aside (RdAt lo w1 R M v role x ∧ TabAt T w1 ∧ lo ≤ w1.heap.size ∧ (∀ i t, ts[i]? = some t → ∃ ad, some (⟨B, 1, none⟩ : Addr) = some ad ∧ w1.cell? (ad.add i) = some (.string t) ∧ t.size ≤ maxLen) ∧ role B = .no ∧ ts.map bytesL = rest ∧ Below lo w w1) := ⟨HL.out.2.1.below hb1, HL.out.2.2.1.below hb1, Nat.le_trans HL.out.1 hb1.size, tail1 hcell, Classical.byContradiction (fun hr => absurd (HL.out.2.1.lt B hr).2 (by omega)), hts, hb1.mono HL.out.1⟩; have e0 : (s0.toList == [108, 105, 109, 105, 116]) = true := by { rw [ln_lit, hs0]; exact HK.out.1 }; clear hcell hwl hts hs0 hb1)))
  · have hl : limitsP x (ts.map bytesL) = some (x', b) := by rw [HW.out.2.2.2.2.2.1]; exact HF.out
    have ht0 : ts.length = 0 := by omega
    refine (lm_walk hf HW.out.1 HW.out.2.1 HW.out.2.2.1 (a := some ⟨B, 0, none⟩) (n := ts.length) (c := 0) (ws := ts) rfl (tail0 ht0) (no_blk HW.out.2.2.2.2.1) hl).mono ?_
    rintro e w2 ⟨rfl, hb2, h2⟩
    clear e0 hcap
    cases b with
    | true =>
      go_wp2
      go_ret
      exact ⟨rfl, HW.out.2.2.2.2.2.2.trans hb2, fun _ => h2 trivial⟩
    | false =>
      go_wp2
      go_ret
      exact ⟨rfl, HW.out.2.2.2.2.2.2.trans hb2, fun e => by cases e⟩
  · have hl : limitsP x (ts.map bytesL) = some (x', b) := by rw [HW.out.2.2.2.2.2.1]; exact HF.out
    refine (lm_walk hf HW.out.1 HW.out.2.1 HW.out.2.2.1 (a := some ⟨B, 1, none⟩) (n := ts.length) (c := cap - 1) (ws := ts) rfl HW.out.2.2.2.1 (no_blk HW.out.2.2.2.2.1) hl).mono ?_
    rintro e w2 ⟨rfl, hb2, h2⟩
    clear e0 hcap
    cases b with
    | true =>
      go_wp2
      go_ret
      exact ⟨rfl, HW.out.2.2.2.2.2.2.trans hb2, fun _ => h2 trivial⟩
    | false =>
      go_wp2
      go_ret
      exact ⟨rfl, HW.out.2.2.2.2.2.2.trans hb2, fun e => by cases e⟩
set_option maxHeartbeats 16000000 in
set_option maxRecDepth 1000000 in
theorem line_user {T : Tab} (hf : Facts T) {lo : Nat} {w : World} {R M : Nat} {v : Value} {role : Nat → Role} {x : RSt} (h : RdAt lo w R M v role x) (hT : TabAt T w) (hlo : lo ≤ w.heap.size) (few : x.us.length ≤ 16) {s : ByteArray} (hs : s.size ≤ maxLen) (hz : Nat.ble (bytesL s).length 4000000000 = true) {w0 : List Int} {rest : List (List Int)} (hspl : splitI (bytesL s) 32 = w0 :: rest) (hk : (w0 == ([108, 105, 109, 105, 116] : List UInt8).map byteI) = false ∧ (w0 == ([117, 115, 101, 114] : List UInt8).map byteI) = true ∧ True ∧ True) {x' : RSt} {e' : Int} (hF : userP x rest = some (x', e')) :
    Calls Tryz.prog 54 #[.pointer (some ⟨R, 0, none⟩), .string s] w fun e w' => RdPost lo R M x' e' e w w' := by
  have hsp := split_calls hf hT hs hz
  have HL : Aside (lo ≤ w.heap.size ∧ RdAt lo w R M v role x ∧ TabAt T w ∧ x.us.length ≤ 16) := ⟨hlo, h, hT, few⟩
  have HS : Aside (splitI (bytesL s) 32 = w0 :: rest) := hspl
  have HK : Aside ((w0 == ([108, 105, 109, 105, 116] : List UInt8).map byteI) = false ∧ (w0 == ([117, 115, 101, 114] : List UInt8).map byteI) = true ∧ True ∧ True) := hk
  clear hlo h hT few hz hspl hk
  have HF : Aside (userP x rest = some (x', e')) := hF
  clear hF
  go_enter Tryz.func54, Tryz.ntmps54
  go_wp2_with (go_at_call 94; (refine hsp.mono ?_; rintro e w1 ⟨B, cap, ws, rfl, hwl, hB, hBl, hcap, hcell, hb1⟩; obtain ⟨s0, ts, rfl, hs0, hts⟩ := ws_cons (hwl.trans HS.out); have c10 : w1.cell? ⟨B, 0, none⟩ = some (.string s0) := (hcell 0 s0 rfl).1; have hcap : ts.length + 1 ≤ cap := hcap; have HW : Aside (RdAt lo w1 R M v role x ∧ TabAt T w1 ∧ lo ≤ w1.heap.size ∧ (∀ i t, ts[i]? = some t → ∃ ad, some (⟨B, 1, none⟩ : Addr) = some ad ∧ w1.cell? (ad.add i) = some (.string t) ∧ t.size ≤ maxLen) ∧ role B = .no ∧ ts.map bytesL = rest ∧ Below lo w w1) := ⟨HL.out.2.1.below hb1, HL.out.2.2.1.below hb1, Nat.le_trans HL.out.1 hb1.size, tail1 hcell, Classical.byContradiction (fun hr => absurd (HL.out.2.1.lt B hr).2 (by omega)), hts, hb1.mono HL.out.1⟩; have e0 : (s0.toList == [108, 105, 109, 105, 116]) = false := by { rw [ln_lit, hs0]; exact HK.out.1 }; have e1 : (s0.toList == [117, 115, 101, 114]) = true := by { rw [ln_lit, hs0]; exact HK.out.2.1 }; clear hcell hwl hts hs0 hb1))
  · have hl : userP x (ts.map bytesL) = some (x', e') := by rw [HW.out.2.2.2.2.2.1]; exact HF.out
    have ht0 : ts.length = 0 := by omega
    refine (user_walk hf HW.out.1 HW.out.2.1 HW.out.2.2.1 HL.out.2.2.2 (a := some ⟨B, 0, none⟩) (n := ts.length) (c := 0) (ws := ts) rfl (tail0 ht0) hl).mono ?_
    rintro e w2 ⟨rfl, hb2, h2⟩
    have H2 : Aside (_ ∧ _) := ⟨hb2, h2⟩
    clear e0 e1 hcap hb2 h2
    go_wp2
    go_ret
    exact ⟨rfl, HW.out.2.2.2.2.2.2.trans H2.out.1, H2.out.2⟩
  · have hl : userP x (ts.map bytesL) = some (x', e') := by rw [HW.out.2.2.2.2.2.1]; exact HF.out
    refine (user_walk hf HW.out.1 HW.out.2.1 HW.out.2.2.1 HL.out.2.2.2 (a := some ⟨B, 1, none⟩) (n := ts.length) (c := cap - 1) (ws := ts) rfl HW.out.2.2.2.1 hl).mono ?_
    rintro e w2 ⟨rfl, hb2, h2⟩
    have H2 : Aside (_ ∧ _) := ⟨hb2, h2⟩
    clear e0 e1 hcap hb2 h2
    go_wp2
    go_ret
    exact ⟨rfl, HW.out.2.2.2.2.2.2.trans H2.out.1, H2.out.2⟩
set_option maxHeartbeats 16000000 in
set_option maxRecDepth 1000000 in
theorem line_none {T : Tab} (hf : Facts T) {lo : Nat} {w : World} {R M : Nat} {v : Value} {role : Nat → Role} {x : RSt} (h : RdAt lo w R M v role x) (hT : TabAt T w) (hlo : lo ≤ w.heap.size) (few : x.us.length ≤ 16) {s : ByteArray} (hs : s.size ≤ maxLen) (hz : Nat.ble (bytesL s).length 4000000000 = true) {w0 : List Int} {rest : List (List Int)} (hspl : splitI (bytesL s) 32 = w0 :: rest) (hk : (w0 == ([108, 105, 109, 105, 116] : List UInt8).map byteI) = false ∧ (w0 == ([117, 115, 101, 114] : List UInt8).map byteI) = false ∧ (w0 == ([97, 108, 108, 111, 119] : List UInt8).map byteI) = false ∧ (w0 == ([100, 101, 110, 121] : List UInt8).map byteI) = false) :
    Calls Tryz.prog 54 #[.pointer (some ⟨R, 0, none⟩), .string s] w fun e w' => RdPost lo R M x 2 e w w' := by
  have hsp := split_calls hf hT hs hz
  have HL : Aside (lo ≤ w.heap.size ∧ RdAt lo w R M v role x ∧ TabAt T w ∧ x.us.length ≤ 16) := ⟨hlo, h, hT, few⟩
  have HS : Aside (splitI (bytesL s) 32 = w0 :: rest) := hspl
  have HK : Aside ((w0 == ([108, 105, 109, 105, 116] : List UInt8).map byteI) = false ∧ (w0 == ([117, 115, 101, 114] : List UInt8).map byteI) = false ∧ (w0 == ([97, 108, 108, 111, 119] : List UInt8).map byteI) = false ∧ (w0 == ([100, 101, 110, 121] : List UInt8).map byteI) = false) := hk
  clear hlo h hT few hz hspl hk
  go_enter Tryz.func54, Tryz.ntmps54
  go_wp2_with (go_at_call 94; (refine hsp.mono ?_; rintro e w1 ⟨B, cap, ws, rfl, hwl, hB, hBl, hcap, hcell, hb1⟩; obtain ⟨s0, ts, rfl, hs0, hts⟩ := ws_cons (hwl.trans HS.out); have c10 : w1.cell? ⟨B, 0, none⟩ = some (.string s0) := (hcell 0 s0 rfl).1; have hcap : ts.length + 1 ≤ cap := hcap; have HW : Aside (RdAt lo w1 R M v role x ∧ TabAt T w1 ∧ lo ≤ w1.heap.size ∧ (∀ i t, ts[i]? = some t → ∃ ad, some (⟨B, 1, none⟩ : Addr) = some ad ∧ w1.cell? (ad.add i) = some (.string t) ∧ t.size ≤ maxLen) ∧ role B = .no ∧ ts.map bytesL = rest ∧ Below lo w w1) := ⟨HL.out.2.1.below hb1, HL.out.2.2.1.below hb1, Nat.le_trans HL.out.1 hb1.size, tail1 hcell, Classical.byContradiction (fun hr => absurd (HL.out.2.1.lt B hr).2 (by omega)), hts, hb1.mono HL.out.1⟩; have e0 : (s0.toList == [108, 105, 109, 105, 116]) = false := by { rw [ln_lit, hs0]; exact HK.out.1 }; have e1 : (s0.toList == [117, 115, 101, 114]) = false := by { rw [ln_lit, hs0]; exact HK.out.2.1 }; have e2 : (s0.toList == [97, 108, 108, 111, 119]) = false := by { rw [ln_lit, hs0]; exact HK.out.2.2.1 }; have e3 : (s0.toList == [100, 101, 110, 121]) = false := by { rw [ln_lit, hs0]; exact HK.out.2.2.2 }; clear hcell hwl hts hs0 hb1))
  go_ret
  exact ⟨rfl, HW.out.2.2.2.2.2.2, fun e => by cases e⟩
set_option maxHeartbeats 16000000 in
set_option maxRecDepth 1000000 in
theorem line_allow {T : Tab} (hf : Facts T) {lo : Nat} {w : World} {R M : Nat} {v : Value} {role : Nat → Role} {x : RSt} (h : RdAt lo w R M v role x) (hT : TabAt T w) (hlo : lo ≤ w.heap.size) (few : x.us.length ≤ 16) {s : ByteArray} (hs : s.size ≤ maxLen) (hz : Nat.ble (bytesL s).length 4000000000 = true) {w0 : List Int} {rest : List (List Int)} (hspl : splitI (bytesL s) 32 = w0 :: rest) (hk : (w0 == ([108, 105, 109, 105, 116] : List UInt8).map byteI) = false ∧ (w0 == ([117, 115, 101, 114] : List UInt8).map byteI) = false ∧ (w0 == ([97, 108, 108, 111, 119] : List UInt8).map byteI) = true ∧ True) {x' : RSt} {e' : Int} (hF : ruleP x true rest = some (x', e')) :
    Calls Tryz.prog 54 #[.pointer (some ⟨R, 0, none⟩), .string s] w fun e w' => RdPost lo R M x' e' e w w' := by
  have hsp := split_calls hf hT hs hz
  have HL : Aside (lo ≤ w.heap.size ∧ RdAt lo w R M v role x ∧ TabAt T w ∧ x.us.length ≤ 16) := ⟨hlo, h, hT, few⟩
  have HS : Aside (splitI (bytesL s) 32 = w0 :: rest) := hspl
  have HK : Aside ((w0 == ([108, 105, 109, 105, 116] : List UInt8).map byteI) = false ∧ (w0 == ([117, 115, 101, 114] : List UInt8).map byteI) = false ∧ (w0 == ([97, 108, 108, 111, 119] : List UInt8).map byteI) = true ∧ True) := hk
  clear hlo h hT few hz hspl hk
  have HF : Aside (ruleP x true rest = some (x', e')) := hF
  clear hF
  go_enter Tryz.func54, Tryz.ntmps54
  go_wp2_with (go_at_call 94; (refine hsp.mono ?_; rintro e w1 ⟨B, cap, ws, rfl, hwl, hB, hBl, hcap, hcell, hb1⟩; obtain ⟨s0, ts, rfl, hs0, hts⟩ := ws_cons (hwl.trans HS.out); have c10 : w1.cell? ⟨B, 0, none⟩ = some (.string s0) := (hcell 0 s0 rfl).1; have hcap : ts.length + 1 ≤ cap := hcap; have HW : Aside (RdAt lo w1 R M v role x ∧ TabAt T w1 ∧ lo ≤ w1.heap.size ∧ (∀ i t, ts[i]? = some t → ∃ ad, some (⟨B, 1, none⟩ : Addr) = some ad ∧ w1.cell? (ad.add i) = some (.string t) ∧ t.size ≤ maxLen) ∧ role B = .no ∧ ts.map bytesL = rest ∧ Below lo w w1) := ⟨HL.out.2.1.below hb1, HL.out.2.2.1.below hb1, Nat.le_trans HL.out.1 hb1.size, tail1 hcell, Classical.byContradiction (fun hr => absurd (HL.out.2.1.lt B hr).2 (by omega)), hts, hb1.mono HL.out.1⟩; have e0 : (s0.toList == [108, 105, 109, 105, 116]) = false := by { rw [ln_lit, hs0]; exact HK.out.1 }; have e1 : (s0.toList == [117, 115, 101, 114]) = false := by { rw [ln_lit, hs0]; exact HK.out.2.1 }; have e2 : (s0.toList == [97, 108, 108, 111, 119]) = true := by { rw [ln_lit, hs0]; exact HK.out.2.2.1 }; clear hcell hwl hts hs0 hb1))
  have hl : ruleP x true (ts.map bytesL) = some (x', e') := by rw [HW.out.2.2.2.2.2.1]; exact HF.out
  have hRz : RdAt lo w1.drew R M v role x := HW.out.1.keep (fun b _ => rfl) (Nat.le_refl _)
  have hTz : TabAt T w1.drew := fun p hp => HW.out.2.1 p hp
  by_cases hc1 : cap = 1
  · subst hc1
    have ht0 : ts.length = 0 := by omega
    have HR : Aside (Calls Tryz.prog 97 #[.pointer (some ⟨R, 0, none⟩), .bool true, .slice (some ⟨B, 0, none⟩) 0 0] w1.drew fun e w' => RdPost lo R M x' e' e w1.drew w') := rule_walk hf hRz hTz HW.out.2.2.1 HL.out.2.2.2 ht0 (tail0 ht0) hl
    clear hRz hTz hl
    go_region_with (go_at_call 97; (refine HR.out.mono ?_; rintro e w2 ⟨rfl, hb2, h2⟩; have H2 : Aside (_ ∧ _) := ⟨hb2, h2⟩; clear hb2 h2))
    all_goals
      go_wp2
      go_ret
      exact ⟨rfl, HW.out.2.2.2.2.2.2.trans ⟨H2.out.1.os, H2.out.1.tape, H2.out.1.output, H2.out.1.size, H2.out.1.block⟩, H2.out.2⟩
  · have ht1 : ∀ i t, ts[i]? = some t → ∃ ad, some (⟨B, 1, none⟩ : Addr) = some ad ∧ w1.drew.cell? (ad.add i) = some (.string t) ∧ t.size ≤ maxLen := HW.out.2.2.2.1
    have HR : Aside (Calls Tryz.prog 97 #[.pointer (some ⟨R, 0, none⟩), .bool true, .slice (some ⟨B, 1, none⟩) ts.length (cap - 1)] w1.drew fun e w' => RdPost lo R M x' e' e w1.drew w') := rule_walk hf hRz hTz HW.out.2.2.1 HL.out.2.2.2 rfl ht1 hl
    clear hRz hTz hl ht1
    go_region_with (go_at_call 97; (refine HR.out.mono ?_; rintro e w2 ⟨rfl, hb2, h2⟩; have H2 : Aside (_ ∧ _) := ⟨hb2, h2⟩; clear hb2 h2))
    all_goals
      go_wp2
      go_ret
      exact ⟨rfl, HW.out.2.2.2.2.2.2.trans ⟨H2.out.1.os, H2.out.1.tape, H2.out.1.output, H2.out.1.size, H2.out.1.block⟩, H2.out.2⟩
set_option maxHeartbeats 16000000 in
set_option maxRecDepth 1000000 in
theorem line_deny {T : Tab} (hf : Facts T) {lo : Nat} {w : World} {R M : Nat} {v : Value} {role : Nat → Role} {x : RSt} (h : RdAt lo w R M v role x) (hT : TabAt T w) (hlo : lo ≤ w.heap.size) (few : x.us.length ≤ 16) {s : ByteArray} (hs : s.size ≤ maxLen) (hz : Nat.ble (bytesL s).length 4000000000 = true) {w0 : List Int} {rest : List (List Int)} (hspl : splitI (bytesL s) 32 = w0 :: rest) (hk : (w0 == ([108, 105, 109, 105, 116] : List UInt8).map byteI) = false ∧ (w0 == ([117, 115, 101, 114] : List UInt8).map byteI) = false ∧ (w0 == ([97, 108, 108, 111, 119] : List UInt8).map byteI) = false ∧ (w0 == ([100, 101, 110, 121] : List UInt8).map byteI) = true) {x' : RSt} {e' : Int} (hF : ruleP x false rest = some (x', e')) :
    Calls Tryz.prog 54 #[.pointer (some ⟨R, 0, none⟩), .string s] w fun e w' => RdPost lo R M x' e' e w w' := by
  have hsp := split_calls hf hT hs hz
  have HL : Aside (lo ≤ w.heap.size ∧ RdAt lo w R M v role x ∧ TabAt T w ∧ x.us.length ≤ 16) := ⟨hlo, h, hT, few⟩
  have HS : Aside (splitI (bytesL s) 32 = w0 :: rest) := hspl
  have HK : Aside ((w0 == ([108, 105, 109, 105, 116] : List UInt8).map byteI) = false ∧ (w0 == ([117, 115, 101, 114] : List UInt8).map byteI) = false ∧ (w0 == ([97, 108, 108, 111, 119] : List UInt8).map byteI) = false ∧ (w0 == ([100, 101, 110, 121] : List UInt8).map byteI) = true) := hk
  clear hlo h hT few hz hspl hk
  have HF : Aside (ruleP x false rest = some (x', e')) := hF
  clear hF
  go_enter Tryz.func54, Tryz.ntmps54
  go_wp2_with (go_at_call 94; (refine hsp.mono ?_; rintro e w1 ⟨B, cap, ws, rfl, hwl, hB, hBl, hcap, hcell, hb1⟩; obtain ⟨s0, ts, rfl, hs0, hts⟩ := ws_cons (hwl.trans HS.out); have c10 : w1.cell? ⟨B, 0, none⟩ = some (.string s0) := (hcell 0 s0 rfl).1; have hcap : ts.length + 1 ≤ cap := hcap; have HW : Aside (RdAt lo w1 R M v role x ∧ TabAt T w1 ∧ lo ≤ w1.heap.size ∧ (∀ i t, ts[i]? = some t → ∃ ad, some (⟨B, 1, none⟩ : Addr) = some ad ∧ w1.cell? (ad.add i) = some (.string t) ∧ t.size ≤ maxLen) ∧ role B = .no ∧ ts.map bytesL = rest ∧ Below lo w w1) := ⟨HL.out.2.1.below hb1, HL.out.2.2.1.below hb1, Nat.le_trans HL.out.1 hb1.size, tail1 hcell, Classical.byContradiction (fun hr => absurd (HL.out.2.1.lt B hr).2 (by omega)), hts, hb1.mono HL.out.1⟩; have e0 : (s0.toList == [108, 105, 109, 105, 116]) = false := by { rw [ln_lit, hs0]; exact HK.out.1 }; have e1 : (s0.toList == [117, 115, 101, 114]) = false := by { rw [ln_lit, hs0]; exact HK.out.2.1 }; have e2 : (s0.toList == [97, 108, 108, 111, 119]) = false := by { rw [ln_lit, hs0]; exact HK.out.2.2.1 }; have e3 : (s0.toList == [100, 101, 110, 121]) = true := by { rw [ln_lit, hs0]; exact HK.out.2.2.2 }; clear hcell hwl hts hs0 hb1))
  have hl : ruleP x false (ts.map bytesL) = some (x', e') := by rw [HW.out.2.2.2.2.2.1]; exact HF.out
  have hRz : RdAt lo w1.drew R M v role x := HW.out.1.keep (fun b _ => rfl) (Nat.le_refl _)
  have hTz : TabAt T w1.drew := fun p hp => HW.out.2.1 p hp
  by_cases hc1 : cap = 1
  · subst hc1
    have ht0 : ts.length = 0 := by omega
    have HR : Aside (Calls Tryz.prog 97 #[.pointer (some ⟨R, 0, none⟩), .bool false, .slice (some ⟨B, 0, none⟩) 0 0] w1.drew fun e w' => RdPost lo R M x' e' e w1.drew w') := rule_walk hf hRz hTz HW.out.2.2.1 HL.out.2.2.2 ht0 (tail0 ht0) hl
    clear hRz hTz hl
    go_region_with (go_at_call 97; (refine HR.out.mono ?_; rintro e w2 ⟨rfl, hb2, h2⟩; have H2 : Aside (_ ∧ _) := ⟨hb2, h2⟩; clear hb2 h2))
    all_goals
      go_wp2
      go_ret
      exact ⟨rfl, HW.out.2.2.2.2.2.2.trans ⟨H2.out.1.os, H2.out.1.tape, H2.out.1.output, H2.out.1.size, H2.out.1.block⟩, H2.out.2⟩
  · have ht1 : ∀ i t, ts[i]? = some t → ∃ ad, some (⟨B, 1, none⟩ : Addr) = some ad ∧ w1.drew.cell? (ad.add i) = some (.string t) ∧ t.size ≤ maxLen := HW.out.2.2.2.1
    have HR : Aside (Calls Tryz.prog 97 #[.pointer (some ⟨R, 0, none⟩), .bool false, .slice (some ⟨B, 1, none⟩) ts.length (cap - 1)] w1.drew fun e w' => RdPost lo R M x' e' e w1.drew w') := rule_walk hf hRz hTz HW.out.2.2.1 HL.out.2.2.2 rfl ht1 hl
    clear hRz hTz hl ht1
    go_region_with (go_at_call 97; (refine HR.out.mono ?_; rintro e w2 ⟨rfl, hb2, h2⟩; have H2 : Aside (_ ∧ _) := ⟨hb2, h2⟩; clear hb2 h2))
    all_goals
      go_wp2
      go_ret
      exact ⟨rfl, HW.out.2.2.2.2.2.2.trans ⟨H2.out.1.os, H2.out.1.tape, H2.out.1.output, H2.out.1.size, H2.out.1.block⟩, H2.out.2⟩
end Go.Proofs.YtgfmfgombmpodaaGreatDoor
namespace Go.Proofs.YtgfmfgombmpodaaGreatDoor
open Go.RowKit Go.Lib Pv
set_option linter.unusedVariables false
theorem sizeC : sizeT Tryz.prog 51 = some 8 := by kernel_rfl
theorem agC : isAg Tryz.prog 51 = true := by kernel_rfl
theorem conf_ret {w : World} {R : Nat} {v0 v1 v2 v3 v4 v5 v6 v7 v : Value} {T : TypeId} {a : Act} {Z : Ending → World → Prop} (hd : a.defers = []) (h2 : a.tmps.getD 2 undef = .pointer (some ⟨R, 0, none⟩)) (h3 : a.tmps.getD 3 undef = v)
    (hR : w.heap[R]? = some (.cells #[v0, v1, v2, v3, v4, v5, v6, v7] T (0, 0)))
    (hZ : Z (.returned (.tuple #[.agg #[v0, v1, v2, v3, v4, v5, v6, v7], v])) w) : bodyPost Tryz.prog Tryz.f27 Z .ret a w := by
  have hl := run_loadVar_cells (P := Tryz.prog) (w := w) (t := 51) (ad := ⟨R, 0, none⟩) (us := [v0, v1, v2, v3, v4, v5, v6, v7]) sizeC rfl agC (fun j x hj => by
    show w.cell? ((⟨R, 0, none⟩ : Addr).add j) = _
    have e : (⟨R, 0, none⟩ : Addr).add j = ⟨R, j, none⟩ := by unfold Addr.add; simp; omega
    rw [e, Lib.cell_of_heap hR]
    rw [← hj]; simp)
  refine bodyPost_ret ?_ hd hZ
  rw [results_cell_tmp (p := 2) (u := 3) (ty := 51) rfl, h2, h3]
  simp [asAddr, hl]
theorem four (w : World) {W' : World} (o1 o2 o3 o4 : Obj) (h : (((w.alloc o1).alloc o2).alloc o3).alloc o4 = W') : Below w.heap.size w W' ∧ W'.heap[w.heap.size]? = some o1 := by
  have sz : ∀ (w : World) (o : Obj), (w.alloc o).heap.size = w.heap.size + 1 := fun w o => by simp
  rw [← h]
  refine ⟨((((Below.refl _ w).alloc (Nat.le_refl _) _).alloc (by rw [sz]; omega) _).alloc (by rw [sz, sz]; omega) _).alloc (by rw [sz, sz, sz]; omega) _, ?_⟩
  rw [Lib.alloc_old _ _ _ (by rw [sz, sz, sz]; omega), Lib.alloc_old _ _ _ (by rw [sz, sz]; omega), Lib.alloc_old _ _ _ (by rw [sz]; omega)]
  rw [show (w.alloc o1).heap = w.heap.push o1 from rfl]
  simp
def confW (w : World) : World := ((((w.alloc (Obj.cells #[Value.int IntKind.i64 0, Value.int IntKind.i64 0, Value.int IntKind.i64 0, Value.int IntKind.i64 0, Value.int IntKind.i64 0, Value.int IntKind.i64 0, Value.int IntKind.i64 0, Value.slice none 0 0] 51)).alloc (Obj.cells #[Value.int IntKind.i64 16, Value.int IntKind.i64 100, Value.int IntKind.i64 65535, Value.int IntKind.i64 1000, Value.int IntKind.i64 1000000, Value.int IntKind.i64 1000, Value.int IntKind.i64 16384, Value.slice none 0 0] 51)).alloc (Obj.map #[] 0)).alloc (Obj.cells #[Value.int IntKind.i64 16, Value.int IntKind.i64 100, Value.int IntKind.i64 65535, Value.int IntKind.i64 1000, Value.int IntKind.i64 1000000, Value.int IntKind.i64 1000, Value.int IntKind.i64 16384, Value.slice none 0 0, Value.map (some (w.heap.size + 1 + 1))] 110))
end Go.Proofs.YtgfmfgombmpodaaGreatDoor
namespace Go.Proofs.YtgfmfgombmpodaaGreatDoor
open Go.RowKit Pv
set_option linter.unusedVariables false
theorem line_walk {T : Tab} (hf : Facts T) {lo : Nat} {w : World} {R M : Nat} {v : Value} {role : Nat → Role} {x : RSt} (h : RdAt lo w R M v role x) (hT : TabAt T w) (hlo : lo ≤ w.heap.size) {s : ByteArray} (hs : s.size ≤ maxLen) {x' : RSt} {e' : Int} (hF : lineP x (bytesL s) = some (x', e')) :
    Calls Tryz.prog 54 #[.pointer (some ⟨R, 0, none⟩), .string s] w fun e w' => RdPost lo R M x' e' e w w' := by
  unfold lineP at hF
  cases hz : (Nat.ble (bytesL s).length 4000000000 && Nat.ble x.us.length 16) with
  | false => rw [hz] at hF; cases hF
  | true =>
  rw [hz, cond_true] at hF
  rw [Bool.and_eq_true] at hz
  have few := Nat.le_of_ble_eq_true hz.2
  cases hsp : splitI (bytesL s) 32 with
  | nil => exact absurd hsp (splitI_ne _ _)
  | cons w0 rest =>
  rw [hsp] at hF
  have hF : lineW x w0 rest = some (x', e') := hF
  unfold lineW at hF
  cases h1 : w0 == lbL with
  | true =>
    rw [h1] at hF
    obtain ⟨⟨y, b⟩, h2, h3⟩ := Option.map_eq_some_iff.1 hF
    obtain ⟨rfl, rfl⟩ := Prod.mk.inj h3
    exact line_lim hf h hT hlo few hs hz.1 hsp ⟨h1, trivial, trivial, trivial⟩ h2
  | false =>
  rw [h1, cond_false] at hF
  cases h2 : w0 == lbU with
  | true =>
    rw [h2] at hF
    exact line_user hf h hT hlo few hs hz.1 hsp ⟨h1, h2, trivial, trivial⟩ hF
  | false =>
  rw [h2, cond_false] at hF
  cases h3 : w0 == lbA with
  | true =>
    rw [h3] at hF
    exact line_allow hf h hT hlo few hs hz.1 hsp ⟨h1, h2, h3, trivial⟩ hF
  | false =>
  rw [h3, cond_false] at hF
  cases h4 : w0 == lbD with
  | true =>
    rw [h4] at hF
    exact line_deny hf h hT hlo few hs hz.1 hsp ⟨h1, h2, h3, h4⟩ hF
  | false =>
  rw [h4, cond_false] at hF
  injection hF with hF
  obtain ⟨rfl, rfl⟩ := Prod.mk.inj hF
  exact line_none hf h hT hlo few hs hz.1 hsp ⟨h1, h2, h3, h4⟩
def rst0 : RSt := ⟨16, 100, 65535, 1000, 1000000, 1000, 16384, [], []⟩
def skipL (s : List Int) : Bool := List.isEmpty s || (s.headD 0 == 35)
noncomputable def parseL : List (List Int) → RSt → Option (RSt × Int)
  | [], x => some (x, 0)
  | s :: r, x => cond (skipL s) (parseL r x) ((lineP x s).bind fun p => cond (decide (p.2 = 0)) (parseL r p.1) (some p))
theorem start_rd (w : World) : RdAt (w.heap.size + 1) (confW w) (w.heap.size + 1 + 1 + 1) (w.heap.size + 1 + 1) (.slice none 0 0) (fun b => if b = w.heap.size + 1 + 1 + 1 then .rdr else if b = w.heap.size + 1 + 1 then .map else .no) rst0 := by
  have sz : ∀ (w : World) (o : Obj), (w.alloc o).heap.size = w.heap.size + 1 := fun w o => by simp
  refine ⟨?_, if_pos rfl, ⟨#[], 0, ?_, fun e he => by simp at he, [], rfl, rfl⟩, ?_, ⟨[], World.ownsRow_nil _ _ _ _, fun b hb => (by cases hb), fun i u hu => (by simp [rst0] at hu)⟩, fun b hb => ?_, fun c hc => ?_⟩
  · unfold confW
    have := heap_alloc_new ((((w.alloc (Obj.cells #[Value.int IntKind.i64 0, Value.int IntKind.i64 0, Value.int IntKind.i64 0, Value.int IntKind.i64 0, Value.int IntKind.i64 0, Value.int IntKind.i64 0, Value.int IntKind.i64 0, Value.slice none 0 0] 51)).alloc (Obj.cells #[Value.int IntKind.i64 16, Value.int IntKind.i64 100, Value.int IntKind.i64 65535, Value.int IntKind.i64 1000, Value.int IntKind.i64 1000000, Value.int IntKind.i64 1000, Value.int IntKind.i64 16384, Value.slice none 0 0] 51)).alloc (Obj.map #[] 0))) (Obj.cells #[Value.int IntKind.i64 16, Value.int IntKind.i64 100, Value.int IntKind.i64 65535, Value.int IntKind.i64 1000, Value.int IntKind.i64 1000000, Value.int IntKind.i64 1000, Value.int IntKind.i64 16384, Value.slice none 0 0, Value.map (some (w.heap.size + 1 + 1))] 110)
    rw [sz, sz, sz] at this
    exact this
  · unfold confW
    rw [heap_alloc_old _ _ (by rw [sz, sz, sz]; omega)]
    have := heap_alloc_new ((w.alloc (Obj.cells #[Value.int IntKind.i64 0, Value.int IntKind.i64 0, Value.int IntKind.i64 0, Value.int IntKind.i64 0, Value.int IntKind.i64 0, Value.int IntKind.i64 0, Value.int IntKind.i64 0, Value.slice none 0 0] 51)).alloc (Obj.cells #[Value.int IntKind.i64 16, Value.int IntKind.i64 100, Value.int IntKind.i64 65535, Value.int IntKind.i64 1000, Value.int IntKind.i64 1000000, Value.int IntKind.i64 1000, Value.int IntKind.i64 16384, Value.slice none 0 0] 51)) (Obj.map #[] 0)
    rw [sz, sz] at this
    exact this
  · show (if w.heap.size + 1 + 1 = w.heap.size + 1 + 1 + 1 then Role.rdr else if w.heap.size + 1 + 1 = w.heap.size + 1 + 1 then .map else .no) = .map
    rw [if_neg (by omega), if_pos rfl]
  · have hs : (confW w).heap.size = w.heap.size + 1 + 1 + 1 + 1 := by
      unfold confW
      rw [sz, sz, sz, sz]
    rw [hs]
    by_cases h1 : b = w.heap.size + 1 + 1 + 1
    · omega
    · by_cases h2 : b = w.heap.size + 1 + 1
      · omega
      · exfalso
        apply hb
        show (if b = _ then Role.rdr else if b = _ then .map else .no) = .no
        rw [if_neg h1, if_neg h2]
  · simp [RSt.ints, rst0] at hc
    rcases hc with rfl | rfl | rfl | rfl | rfl | rfl | rfl <;> decide
theorem cells8 {w : World} {b : Nat} {v0 v1 v2 v3 v4 v5 v6 v7 : Value} {T : TypeId} (h : w.heap[b]? = some (.cells #[v0, v1, v2, v3, v4, v5, v6, v7] T (0, 0))) : w.cell? ⟨b, 0, none⟩ = some v0 ∧ w.cell? ⟨b, 1, none⟩ = some v1 ∧ w.cell? ⟨b, 2, none⟩ = some v2 ∧ w.cell? ⟨b, 3, none⟩ = some v3 ∧ w.cell? ⟨b, 4, none⟩ = some v4 ∧ w.cell? ⟨b, 5, none⟩ = some v5 ∧ w.cell? ⟨b, 6, none⟩ = some v6 ∧ w.cell? ⟨b, 7, none⟩ = some v7 ∧
    w.frozen? ⟨b, 0, none⟩ = false ∧ w.frozen? ⟨b, 1, none⟩ = false ∧ w.frozen? ⟨b, 2, none⟩ = false ∧ w.frozen? ⟨b, 3, none⟩ = false ∧ w.frozen? ⟨b, 4, none⟩ = false ∧ w.frozen? ⟨b, 5, none⟩ = false ∧ w.frozen? ⟨b, 6, none⟩ = false ∧ w.frozen? ⟨b, 7, none⟩ = false := by
  refine ⟨?_, ?_, ?_, ?_, ?_, ?_, ?_, ?_, ?_, ?_, ?_, ?_, ?_, ?_, ?_, ?_⟩ <;> first | (rw [cell_at h]; rfl) | simp [World.frozen?, h]
def ParPost (w : World) (xf : RSt) (ef : Int) (e : Ending) (w' : World) : Prop := Below w.heap.size w w' ∧ (ef ≠ 0 → e = .returned (.tuple #[.agg #[.int .i64 0, .int .i64 0, .int .i64 0, .int .i64 0, .int .i64 0, .int .i64 0, .int .i64 0, .slice none 0 0], .int .i64 ef])) ∧
  (ef = 0 → ∃ v role, e = .returned (.tuple #[.agg #[.int .i64 xf.c0, .int .i64 xf.c1, .int .i64 xf.c2, .int .i64 xf.c3, .int .i64 xf.c4, .int .i64 xf.c5, .int .i64 xf.c6, v], .int .i64 0]) ∧ RdAt (w.heap.size + 1) w' (w.heap.size + 1 + 1 + 1) (w.heap.size + 1 + 1) v role xf)
set_option maxHeartbeats 4000000 in
theorem set8 {w W : World} {b : Nat} {u0 u1 u2 u3 u4 u5 u6 u7 v0 v1 v2 v3 v4 v5 v6 v7 : Value} {T : TypeId} (h : w.heap[b]? = some (.cells #[u0, u1, u2, u3, u4, u5, u6, u7] T (0, 0))) (hW : ((((((((w.setCell ⟨b, 0, none⟩ v0).setCell ⟨b, 1, none⟩ v1).setCell ⟨b, 2, none⟩ v2).setCell ⟨b, 3, none⟩ v3).setCell ⟨b, 4, none⟩ v4).setCell ⟨b, 5, none⟩ v5).setCell ⟨b, 6, none⟩ v6).setCell ⟨b, 7, none⟩ v7) = W) :
    W.heap[b]? = some (.cells #[v0, v1, v2, v3, v4, v5, v6, v7] T (0, 0)) ∧ (∀ k, k ≠ b → W.heap[k]? = w.heap[k]?) ∧ W.heap.size = w.heap.size ∧ W.os = w.os ∧ W.tape = w.tape ∧ W.output = w.output := by
  have hsz : ∀ (w : World) (a : Addr) (u : Value), (w.setCell a u).heap.size = w.heap.size := fun w a u => by simp [World.setCell]
  have hos : ∀ (w : World) (a : Addr) (u : Value), (w.setCell a u).os = w.os ∧ (w.setCell a u).tape = w.tape ∧ (w.setCell a u).output = w.output := fun w a u => ⟨rfl, rfl, rfl⟩
  subst hW
  refine ⟨?_, fun k hk => ?_, by rw [hsz, hsz, hsz, hsz, hsz, hsz, hsz, hsz], by rw [(hos _ _ _).1, (hos _ _ _).1, (hos _ _ _).1, (hos _ _ _).1, (hos _ _ _).1, (hos _ _ _).1, (hos _ _ _).1, (hos _ _ _).1], by rw [(hos _ _ _).2.1, (hos _ _ _).2.1, (hos _ _ _).2.1, (hos _ _ _).2.1, (hos _ _ _).2.1, (hos _ _ _).2.1, (hos _ _ _).2.1, (hos _ _ _).2.1], by rw [(hos _ _ _).2.2, (hos _ _ _).2.2, (hos _ _ _).2.2, (hos _ _ _).2.2, (hos _ _ _).2.2, (hos _ _ _).2.2, (hos _ _ _).2.2, (hos _ _ _).2.2]⟩
  · rw [set_heap (set_heap (set_heap (set_heap (set_heap (set_heap (set_heap (set_heap h)))))))]
    rfl
  · rw [setCell_heap, if_neg hk, setCell_heap, if_neg hk, setCell_heap, if_neg hk, setCell_heap, if_neg hk, setCell_heap, if_neg hk, setCell_heap, if_neg hk, setCell_heap, if_neg hk, setCell_heap, if_neg hk]
theorem below_set {w wr W : World} (hb : Below w.heap.size w wr) (h1 : ∀ k, k ≠ w.heap.size → W.heap[k]? = wr.heap[k]?) (h2 : W.heap.size = wr.heap.size) (h3 : W.os = wr.os ∧ W.tape = wr.tape ∧ W.output = wr.output) : Below w.heap.size w W :=
  ⟨h3.1.trans hb.os, h3.2.1.trans hb.tape, h3.2.2.trans hb.output, by rw [h2]; exact hb.size, fun k hk => (h1 k (by omega)).trans (hb.block k hk)⟩
theorem rd_slice {lo : Nat} {w : World} {R M : Nat} {v : Value} {role : Nat → Role} {x : RSt} (h : RdAt lo w R M v role x) : ∃ a n c, v = .slice a n c := by
  obtain ⟨xs, u1, _⟩ := h.hU
  rcases u1.2 with ⟨rfl, _⟩ | ⟨g, cap, cur, rfl, _⟩
  · exact ⟨_, _, _, rfl⟩
  · exact ⟨_, _, _, rfl⟩
theorem par_cell {w w' : World} {a : Addr} {u : Value} (h : w.cell? a = some u) (hb : Below w.heap.size w w') : w'.cell? a = some u := (hb.cell (cell_lt h)).trans h
set_option maxHeartbeats 16000000 in
set_option maxRecDepth 1000000 in
theorem par_walk {T : Tab} (hf : Facts T) {w : World} (hT : TabAt T w) {a : Option Addr} {n c : Nat} {ls : List ByteArray} (hn : ls.length = n) (hsm : n ≤ 1000000) (hls : ∀ i s, ls[i]? = some s → ∃ ad, a = some ad ∧ w.cell? (ad.add i) = some (.string s) ∧ s.size ≤ maxLen) {xf : RSt} {ef : Int} (hF : parseL (ls.map bytesL) rst0 = some (xf, ef)) :
    Calls Tryz.prog 27 #[.slice a n c] w fun e w' => ParPost w xf ef e w' := by
  have hs0 := start_rd w
  have HL : Aside (TabAt T w ∧ ls.length = n ∧ (∀ i s, ls[i]? = some s → ∃ ad, a = some ad ∧ w.cell? (ad.add i) = some (.string s) ∧ s.size ≤ maxLen) ∧ parseL (ls.map bytesL) rst0 = some (xf, ef)) := ⟨hT, hn, hls, hF⟩
  have HS0 : Aside (RdAt (w.heap.size + 1) (confW w) (w.heap.size + 1 + 1 + 1) (w.heap.size + 1 + 1) (.slice none 0 0) (fun b => if b = w.heap.size + 1 + 1 + 1 then .rdr else if b = w.heap.size + 1 + 1 then .map else .no) rst0) := hs0
  clear hT hn hls hF hs0
  go_enter Tryz.func27, Tryz.ntmps27
  have hmm := @run_makeMap Tryz.prog
  go_wp2
  go_loopw [3, 14] (fun u vi wr => u = .int .i64 0 ∧ ∃ k : Nat, vi = .int .i64 k ∧ k ≤ n ∧ Aside (∃ x v role, RdAt (w.heap.size + 1) wr (w.heap.size + 1 + 1 + 1) (w.heap.size + 1 + 1) v role x ∧ parseL ((ls.drop k).map bytesL) x = some (xf, ef)) ∧ Aside (wr.heap[w.heap.size]? = some (Obj.cells #[Value.int IntKind.i64 0, Value.int IntKind.i64 0, Value.int IntKind.i64 0, Value.int IntKind.i64 0, Value.int IntKind.i64 0, Value.int IntKind.i64 0, Value.int IntKind.i64 0, Value.slice none 0 0] 51 (0, 0))) ∧ Below w.heap.size w wr) (fun _ vi _ => n - (intOf vi).toNat)
  case atStart =>
    refine ⟨rfl, 0, rfl, by omega, ⟨rst0, _, _, HS0.out, HL.out.2.2.2⟩, ?_, ?_⟩
    · exact (four w _ _ _ _ rfl).2
    · exact (four w _ _ _ _ rfl).1
  case round =>
    obtain ⟨rfl, k, rfl, hk, HX, HZ, hb⟩ := hrel
    have hwr : w.heap.size ≤ wr.heap.size := hb.size
    by_cases hlt : k < n
    · obtain ⟨x, v, role, hrd, hp⟩ := HX.out
      have hkl : k < ls.length := by rw [HL.out.2.1]; exact hlt
      obtain ⟨s, hsk⟩ : ∃ s, ls[k]? = some s := ⟨_, List.getElem?_eq_getElem hkl⟩
      obtain ⟨ad, rfl, hc0, hz⟩ := HL.out.2.2.1 k s hsk
      have hcr := par_cell hc0 hb
      rw [List.drop_eq_getElem_cons hkl, List.map_cons, show ls[k] = s from by rw [List.getElem?_eq_getElem hkl] at hsk; injection hsk] at hp
      have hp : cond (skipL (bytesL s)) (parseL ((ls.drop (k + 1)).map bytesL) x) ((lineP x (bytesL s)).bind fun p => cond (decide (p.2 = 0)) (parseL ((ls.drop (k + 1)).map bytesL) p.1) (some p)) = some (xf, ef) := hp
      clear HX hsk hc0
      have hne : ∀ h0 : 0 < s.size, bytesL s = (((s[0]'h0).toNat : Nat) : Int) :: (bytesL s).tail := fun h0 => by
        have h1 : s.data.toList.length = s.size := by simp
        have h2 : s.data.toList[0]? = some (s[0]'h0) := Lib.data_getElem? s 0 h0
        show s.data.toList.map byteI = _
        cases hq : s.data.toList with
        | nil => rw [hq] at h2; cases h2
        | cons y r =>
          rw [hq] at h2
          injection h2 with h2
          show byteI y :: r.map byteI = _
          rw [← h2]
          show _ = _ :: (s.data.toList.map byteI).tail
          rw [hq]
          rfl
      cases hsk : skipL (bytesL s) with
      | true =>
        rw [hsk, cond_true] at hp
        have HN : Aside (∃ x v role, RdAt (w.heap.size + 1) wr (w.heap.size + 1 + 1 + 1) (w.heap.size + 1 + 1) v role x ∧ parseL ((ls.drop (k + 1)).map bytesL) x = some (xf, ef)) := ⟨x, v, role, hrd, hp⟩
        clear hrd hp
        by_cases h0 : 0 < s.size
        · have hc : (((s[0]'h0).toNat : Nat) : Int) = 35 := by
            unfold skipL at hsk
            rw [hne h0] at hsk
            simpa using hsk
          have hnn : ¬ s.toList = [] := fun e => by
            have := (bytes_nil s).2 e
            rw [hne h0] at this
            cases this
          clear hsk hne
          go_wp2
          all_goals exact ⟨⟨by first | rfl | trivial, k + 1, by simp, by omega, HN, HZ, hb⟩, by simp [intOf]; omega⟩
        · have hnn : s.toList = [] := (bytes_nil s).1 (List.eq_nil_of_length_eq_zero (by rw [bytes_len]; omega))
          clear hsk hne
          go_wp2
          all_goals exact ⟨⟨by first | rfl | trivial, k + 1, by simp, by omega, HN, HZ, hb⟩, by simp [intOf]; omega⟩
      | false =>
        rw [hsk, cond_false] at hp
        obtain ⟨⟨x1, e1⟩, hl1, hp⟩ := Option.bind_eq_some_iff.1 hp
        have hnn : ¬ s.toList = [] := fun e => by
          have := (bytes_nil s).2 e
          rw [this] at hsk
          cases hsk
        have h0 : 0 < s.size := by
          rcases Nat.lt_or_ge 0 s.size with h | h
          · exact h
          · exact absurd ((bytes_nil s).1 (List.eq_nil_of_length_eq_zero (by rw [bytes_len]; omega))) hnn
        have hc : ¬ (((s[0]'h0).toNat : Nat) : Int) = 35 := fun e => by
          unfold skipL at hsk
          rw [hne h0, e] at hsk
          cases hsk
        have hTr : TabAt T wr := HL.out.1.below hb
        have hlw : w.heap.size + 1 ≤ wr.heap.size := (Array.getElem?_eq_some_iff.1 HZ.out).1
        have hlk := line_walk hf hrd hTr hlw hz hl1
        have hzb : ∀ w2, Below (w.heap.size + 1) wr w2 → w2.heap[w.heap.size]? = _ := fun w2 h => (h.block w.heap.size (by omega)).trans HZ.out
        have HN : Aside (_ ∧ _) := ⟨hp, hzb⟩
        clear hrd hp hsk hne hTr hlw hl1 hzb
        by_cases he : e1 = 0
        · subst he
          go_wp2_with (go_at_call 54; (refine hlk.mono ?_; rintro e w2 ⟨rfl, hb2, h2⟩; have H2 : Aside (_ ∧ _) := ⟨hb2, h2⟩; clear hb2 h2))
          all_goals first
            | (exfalso; rename_i hor; rcases hor with hor | hor; exact hnn (List.isEmpty_iff.1 hor); exact hc (by simpa using hor))
            | (obtain ⟨v', role', hrd'⟩ := H2.out.2 (by first | rfl | trivial)
               exact ⟨⟨by first | rfl | trivial, k + 1, by simp, by omega, ⟨x1, v', role', hrd', HN.out.1⟩, HN.out.2 _ H2.out.1, hb.trans (H2.out.1.mono (by omega))⟩, by simp [intOf]; omega⟩)
        · have hpe : some (x1, e1) = some (xf, ef) := by
            have := HN.out.1
            rw [decide_eq_false he] at this
            exact this
          injection hpe with hpe
          obtain ⟨rfl, rfl⟩ := Prod.mk.inj hpe
          go_wp2_with (go_at_call 54; (refine hlk.mono ?_; rintro e w2 ⟨rfl, hb2, h2⟩; obtain ⟨z0, z1, z2, z3, z4, z5, z6, z7, f0, f1, f2, f3, f4, f5, f6, f7⟩ := cells8 (HN.out.2 _ hb2); have H2 : Aside (_ ∧ _) := ⟨hb2, h2⟩; clear hb2 h2))
          all_goals first
            | (exfalso; rename_i hor; rcases hor with hor | hor; exact hnn (List.isEmpty_iff.1 hor); exact hc (by simpa using hor))
            | skip
          all_goals
            generalize hW : World.setCell _ _ _ = W8
            obtain ⟨y1, y2, y3, y4⟩ := set8 (HN.out.2 _ H2.out.1) hW
            exact conf_ret rfl rfl rfl y1 ⟨below_set (hb.trans (H2.out.1.mono (by omega))) y2 y3 y4, fun _ => rfl, fun h => absurd h he⟩
    · obtain rfl : k = n := by omega
      obtain ⟨x, v, role, hrd, hp⟩ := HX.out
      rw [List.drop_eq_nil_of_le (by rw [HL.out.2.1]; exact Nat.le_refl _)] at hp
      have hp : some (x, (0 : Int)) = some (xf, ef) := hp
      injection hp with hp
      obtain ⟨rfl, rfl⟩ := Prod.mk.inj hp
      obtain ⟨z0, z1, z2, z3, z4, z5, z6, z7, f0, f1, f2, f3, f4, f5, f6, f7⟩ := cells8 HZ.out
      obtain ⟨va, vn, vc, rfl⟩ := rd_slice hrd
      obtain ⟨q0, q1, q2, q3, q4, q5, q6, q7, q8, _⟩ := cells9 hrd.hR
      have HR : Aside (RdAt (w.heap.size + 1) wr (w.heap.size + 1 + 1 + 1) (w.heap.size + 1 + 1) (.slice va vn vc) role x) := hrd
      clear hrd
      go_wp2
      generalize hW : World.setCell _ _ _ = W8
      obtain ⟨y1, y2, y3, y4⟩ := set8 HZ.out hW
      refine conf_ret rfl rfl rfl y1 ⟨below_set hb y2 y3 y4, fun h => absurd rfl h, fun _ => ⟨_, role, rfl, HR.out.keep (fun b hr => y2 b (by have := (HR.out.lt b hr).1; omega)) (by rw [y3]; exact Nat.le_refl _)⟩⟩
theorem strs_any {P : Nat → ByteArray → Prop} : ∀ (l : List (List Int)), (∀ (i : Nat) (y : List Int), l[i]? = some y → ∃ t : ByteArray, P i t ∧ bytesL t = y) → ∃ ws : List ByteArray, ws.map bytesL = l ∧ ∀ (i : Nat) (t : ByteArray), ws[i]? = some t → P i t := by
  intro l h
  have key : ∀ k, k ≤ l.length → ∃ ws : List ByteArray, ws.map bytesL = l.take k ∧ ∀ (i : Nat) (t : ByteArray), ws[i]? = some t → P i t := by
    intro k
    induction k with
    | zero => exact fun _ => ⟨[], rfl, fun i t ht => by simp at ht⟩
    | succ k ih =>
      intro hk
      obtain ⟨ws, h1, h2⟩ := ih (by omega)
      have hget : l[k]? = some l[k] := List.getElem?_eq_getElem (by omega)
      obtain ⟨t, ht, ht2⟩ := h k _ hget
      have hl : ws.length = k := by
        have := congrArg List.length h1
        rw [List.length_map, List.length_take] at this
        omega
      refine ⟨ws ++ [t], ?_, fun i u hu => ?_⟩
      · rw [List.map_append, h1, List.take_add_one, hget, ← ht2]; rfl
      · rcases Nat.lt_or_ge i ws.length with hi | hi
        · rw [List.getElem?_append_left hi] at hu
          exact h2 i u hu
        · rw [List.getElem?_append_right hi] at hu
          have hi2 : i = k := by
            have := (List.getElem?_eq_some_iff.1 hu).1
            simp at this
            omega
          subst hi2
          rw [hl, Nat.sub_self] at hu
          injection hu with hu
          subst hu
          exact ht
  obtain ⟨ws, h1, h2⟩ := key l.length (Nat.le_refl _)
  exact ⟨ws, by rw [h1, List.take_length], h2⟩
theorem row_rep {lo : Nat} {w : World} {role : Nat → Role} {ro : Role} {E : TypeId} {e : Ty} {l : List e.D} {v : Value} {C : Com} (h : RowAt lo w role ro E e l v) (he : flatT e = true) (hC : ∀ b o, v.ownBlock = some b → o < List.length l * e.size → C b o) : RepD w C (.sl e) l [v] := by
  obtain ⟨xs, h1, h2, h3⟩ := h
  rcases h1.2 with ⟨rfl, hn⟩ | ⟨g, cap, cur, rfl, hb, hg, hlc, hcm, hcs, ht⟩
  · refine ⟨none, 0, 0, rfl, hn, Nat.le_refl _, by unfold maxLen; omega, fun i x hx => ?_⟩
    have hx : l[i]? = some x := hx
    have := (List.getElem?_eq_some_iff.1 hx).1
    omega
  · refine ⟨_, _, _, rfl, rfl, hlc, hcm, fun i x hx => ?_⟩
    have hx : l[i]? = some x := hx
    have hi := (List.getElem?_eq_some_iff.1 hx).1
    have hr := h3 i x hx
    refine ⟨⟨g, 0, none⟩, (xs.drop (i * e.size)).take e.size, rfl, RepD.len hr, fun j u hj => ?_, repD_flat he hr⟩
    have hjl : j < e.size := by
      have h4 := (List.getElem?_eq_some_iff.1 hj).1
      have h5 := RepD.len hr
      omega
    rw [List.getElem?_take, if_pos hjl, List.getElem?_drop] at hj
    refine ⟨h1.cells (g := g) rfl _ u hj, ?_⟩
    refine hC g _ rfl ?_
    have h6 : (i + 1) * e.size ≤ List.length l * e.size := Nat.mul_le_mul_right _ hi
    rw [Nat.add_mul, Nat.one_mul] at h6
    show 0 + (i * e.size + j) < _
    omega
theorem user_rep {lo : Nat} {w : World} {role : Nat → Role} {i : Nat} {u : UserD} {cs : List Value} {C : Com} (h : UserAt lo w role i u cs) (hC : ∀ b o, role b = .flat ∨ role b = .row i → C b o) : RepD w C userT u cs := by
  obtain ⟨nm, vs, vd, vr, rfl, h2, h3, h4, h5, h6, h7⟩ := h
  have k5 := row_rep (C := C) h5 rfl fun b o hb _ => hC b o (.inl (by obtain ⟨_, _, q, _⟩ := h5; exact q b hb))
  have k6 := row_rep (C := C) h6 rfl fun b o hb _ => hC b o (.inl (by obtain ⟨_, _, q, _⟩ := h6; exact q b hb))
  have k7 := row_rep (C := C) h7 rfl fun b o hb _ => hC b o (.inr (by obtain ⟨_, _, q, _⟩ := h7; exact q b hb))
  exact ⟨[_], _, rfl, ⟨nm, rfl, h2, h3⟩, [_, _], _, rfl, ⟨[_], [_], rfl, k5, k6⟩, [_], _, rfl, ⟨rfl, h4⟩, [_], _, rfl, rfl, k7⟩
def F_conf_Parse_sig : Sig := ⟨[.v false [.d (.sl .str)]], [(true, [.d (.int .i64), .d (.int .i64), .d (.int .i64), .d (.int .i64), .d (.int .i64), .d (.int .i64), .d (.int .i64), .own 63 (.pr .str (.pr (.pr (.sl (.int .u8)) (.sl (.int .u8))) (.pr (.int .i64) (.pr (.cpx .f64) (.sl (.pr .bool (.pr (.int .i64) (.pr .str (.pr (.pr .str (.int .i64)) (.pr (.int .i64) (.int .i64)))))))))))]), (false, [.d (.int .i64)])]⟩
abbrev ConfR := Int × Int × Int × Int × Int × Int × Int × List UserD × Int
noncomputable def F_conf_Parse (l : List (List Int)) : Option ConfR := cond (Nat.ble l.length 1000000) ((parseL l rst0).bind fun p => cond (decide (p.2 = 0)) (some (p.1.c0, p.1.c1, p.1.c2, p.1.c3, p.1.c4, p.1.c5, p.1.c6, p.1.us, 0)) (cond (decide (0 < p.2) && decide (p.2 < 10)) (some (0, 0, 0, 0, 0, 0, 0, [], p.2)) none)) none
theorem F_conf_Parse_sound {T : Tab} (h_maxlen : has_maxlen T) (h_pow10 : tab_pow10 ∈ T) (h_errs : has_errs T) : SoundFn Tryz.prog T 27 F_conf_Parse_sig ⟨F_conf_Parse⟩ := by
  refine sound_of rfl fun F g O xs ls y tmf w args hT hw hlim hls happ hsz hr => ?_
  obtain ⟨(l : List (List Int)), xs', rfl, h2⟩ := appF_inv_c (ts := []) happ
  obtain ⟨rfl, h3⟩ := appF_inv_n h2
  have hls' : some [Leaf.d (.sl .str) l] = some ls := hls
  injection hls' with hls'
  subst hls'
  obtain ⟨a, n, c, e0, e1, e2, e3, e4⟩ := rel_leaf.1 (hr 0)
  have e0 : args.getD 0 undef = .slice a n c := by injection e0
  rw [args_1 hsz, e0]
  have h3 : F_conf_Parse l = some y := h3
  unfold F_conf_Parse at h3
  cases hb : Nat.ble l.length 1000000 with
  | false => rw [hb] at h3; cases h3
  | true =>
    rw [hb, cond_true] at h3
    obtain ⟨⟨xf, ef⟩, hp, h3⟩ := Option.bind_eq_some_iff.1 h3
    have hble := Nat.le_of_ble_eq_true hb
    have e1 : l.length = n := e1
    obtain ⟨bs, hbs, hbc⟩ := strs_any (P := fun i t => ∃ ad, a = some ad ∧ w.cell? (ad.add i) = some (.string t) ∧ t.size ≤ maxLen) l fun i s hs => by
      obtain ⟨ad, us, q1, q2, q3, t, q4, q5, q6⟩ := e4 i s hs
      refine ⟨t, ⟨ad, q1, ?_, q6⟩, q5⟩
      have := (q3 0 (.string t) (by rw [q4]; rfl)).1
      rw [show (Ty.str).size = 1 from rfl, Nat.mul_one, Nat.add_zero] at this
      exact this
    have hbl : bs.length = n := by rw [← e1, ← hbs, List.length_map]
    refine (par_walk ⟨h_pow10, h_errs, h_maxlen⟩ hT hbl (by omega) hbc (by rw [hbs]; exact hp)).mono ?_
    rintro e w' ⟨hbel, hno, hyes⟩
    by_cases he : ef = 0
    · subst he
      obtain ⟨v, role, rfl, hrd⟩ := hyes rfl
      have hy : ((xf.c0, xf.c1, xf.c2, xf.c3, xf.c4, xf.c5, xf.c6, xf.us, 0) : ConfR) = y := by
        have h3 : some _ = some y := h3
        injection h3
      subst hy
      obtain ⟨xs, u1, u2, u3⟩ := hrd.hU
      have hwfs := hrd.wf
      have ti : ∀ {C : Com} {bk : Tok → Option Nat} {x : Int}, (Lit.int .i64 x).wf = true → RepL F ⟨C, bk, g.ρ, fun _ _ => []⟩ w' (exitO F_conf_Parse_sig) (.d (.int .i64) x) [.int .i64 x] := fun h => ⟨rfl, h⟩
      have h70 : ∀ {k : Tok} {v0 : Option Nat} {b : Nat}, (match tokEq k (.hd 0 7) with | true => v0 | false => none) = some b → k = .hd 0 7 ∧ v0 = some b := fun {k v0 b} hk => by
        cases hq : tokEq k (.hd 0 7) with
        | false => rw [hq] at hk; cases hk
        | true =>
          rw [hq] at hk
          refine ⟨?_, hk⟩
          cases k with
          | hd d j =>
            have : (Nat.beq d 0 && Nat.beq j 7) = true := hq
            simp only [Bool.and_eq_true] at this
            rw [Nat.eq_of_beq_eq_true this.1, Nat.eq_of_beq_eq_true this.2]
          | zero => cases hq
          | op _ _ => cases hq
      have fin : ∀ (C' : Com) (bk : Option Nat), (∀ b o, b < w.heap.size → (C' b o ↔ g.C b o)) → (∀ b o, C' b o → b < w'.heap.size) → (∀ b, bk = some b → w.heap.size ≤ b ∧ b < w'.heap.size) → RepL F ⟨C', fun k => match tokEq k (.hd 0 7) with | true => bk | false => none, g.ρ, fun _ _ => []⟩ w' (exitO F_conf_Parse_sig) (.own (.hd 0 7) 63 userT xf.us) [v] →
          ∃ us os C' blk', Ending.returned (.tuple #[.agg #[.int .i64 xf.c0, .int .i64 xf.c1, .int .i64 xf.c2, .int .i64 xf.c3, .int .i64 xf.c4, .int .i64 xf.c5, .int .i64 xf.c6, v], .int .i64 0]) = .returned (retV us) ∧ us.length = F_conf_Parse_sig.rs.length ∧ mkLs (Tok.hd 0) F_conf_Parse_sig.outs 0 (unpackD (F_conf_Parse_sig.outs.map LT.ty) ((xf.c0, xf.c1, xf.c2, xf.c3, xf.c4, xf.c5, xf.c6, xf.us, 0) : ConfR)) = some os ∧ Below w.heap.size w w' ∧
            (∀ b o, b < w.heap.size → (C' b o ↔ g.C b o)) ∧ (∀ b o, C' b o → b < w'.heap.size) ∧ blk' .zero = none ∧ (∀ k b, blk' k = some b → w.heap.size ≤ b ∧ b < w'.heap.size) ∧ (∀ k k' b, blk' k = some b → blk' k' = some b → k = k') ∧
            ∀ i, i < F_conf_Parse_sig.rs.length → RelP F ⟨C', blk', g.ρ, fun _ _ => []⟩ w' (exitO F_conf_Parse_sig) tmf (us.getD i undef) (resAt F_conf_Parse_sig.rs os i) := fun C' bk h1 h2 h3 h4 => by
        refine ⟨[.agg #[.int .i64 xf.c0, .int .i64 xf.c1, .int .i64 xf.c2, .int .i64 xf.c3, .int .i64 xf.c4, .int .i64 xf.c5, .int .i64 xf.c6, v], .int .i64 0], _, C', fun k => match tokEq k (.hd 0 7) with | true => bk | false => none, rfl, rfl, rfl, hbel, h1, h2, rfl, fun k b hk => h3 b (h70 hk).2, fun k k' b hk hk' => (h70 hk).1.trans (h70 hk').1.symm, fun i hi => ?_⟩
        match i, hi with
        | 0, _ =>
          refine ⟨[.int .i64 xf.c0, .int .i64 xf.c1, .int .i64 xf.c2, .int .i64 xf.c3, .int .i64 xf.c4, .int .i64 xf.c5, .int .i64 xf.c6, v], ?_, rfl⟩
          have k0 : (Lit.int .i64 xf.c0).wf = true := hwfs _ (by simp [RSt.ints])
          have k1 : (Lit.int .i64 xf.c1).wf = true := hwfs _ (by simp [RSt.ints])
          have k2 : (Lit.int .i64 xf.c2).wf = true := hwfs _ (by simp [RSt.ints])
          have k3 : (Lit.int .i64 xf.c3).wf = true := hwfs _ (by simp [RSt.ints])
          have k4 : (Lit.int .i64 xf.c4).wf = true := hwfs _ (by simp [RSt.ints])
          have k5 : (Lit.int .i64 xf.c5).wf = true := hwfs _ (by simp [RSt.ints])
          have k6 : (Lit.int .i64 xf.c6).wf = true := hwfs _ (by simp [RSt.ints])
          exact ⟨[_], _, rfl, ti k0, [_], _, rfl, ti k1, [_], _, rfl, ti k2, [_], _, rfl, ti k3, [_], _, rfl, ti k4, [_], _, rfl, ti k5, [_], _, rfl, ti k6, [_], [], rfl, h4, rfl⟩
        | 1, _ => exact rel_leaf.2 ⟨rfl, rfl⟩
        | i + 2, hi => exact absurd hi (by show ¬ i + 2 < 2; omega)
      rcases u1.2 with ⟨rfl, hn0⟩ | ⟨U, cap, cur, rfl, hUlo, hcell, hlc, hcm, hcs, htake⟩
      · have hnil : xf.us = [] := List.eq_nil_of_length_eq_zero hn0
        refine fin g.C none (fun _ _ _ => Iff.rfl) (fun b o h => Nat.lt_of_lt_of_le (hlim b o h) hbel.size) (fun b h => (by cases h)) ?_
        rw [hnil]
        exact ⟨⟨none, 0, 0, rfl, rfl, Nat.le_refl _, by unfold maxLen; omega, fun i x hx => by
          have hx : List.nil[i]? = some x := hx
          simp at hx⟩, fun _ => ⟨_, rfl, .inl ⟨none, rfl, rfl, rfl⟩⟩⟩
      · have hUs : U < w'.heap.size := (Array.getElem?_eq_some_iff.1 hcell).1
        have hroU := u2 U rfl
        have hel : ∀ (i : Nat) (x : UserD), xf.us[i]? = some x → RepD w' (fun b o => g.C b o ∨ (w.heap.size ≤ b ∧ b < w'.heap.size ∧ (b = U → o < xf.us.length * 6))) userT x ((cur.toList.drop (i * 6)).take 6) := fun i x hx => by
          have h1 := user_rep (C := fun b o => g.C b o ∨ (w.heap.size ≤ b ∧ b < w'.heap.size ∧ (b = U → o < xf.us.length * 6))) (u3 i x hx) fun b o hb => .inr (by
            have hne : role b ≠ .no := by rcases hb with hb | hb <;> (rw [hb]; intro e; cases e)
            have h2 := hrd.lt b hne
            refine ⟨by omega, h2.2, fun e => ?_⟩
            rw [e, hroU] at hb
            rcases hb with hb | hb <;> cases hb)
          rw [← htake, take_row (List.getElem?_eq_some_iff.1 hx).1] at h1
          exact h1
        refine fin (fun b o => g.C b o ∨ (w.heap.size ≤ b ∧ b < w'.heap.size ∧ (b = U → o < xf.us.length * 6))) (some U) (fun b o hb => ⟨fun h => h.elim id fun h => absurd h.1 (by omega), .inl⟩) (fun b o h => h.elim (fun h => Nat.lt_of_lt_of_le (hlim b o h) hbel.size) fun h => h.2.1) (fun b h => by injection h with h; rw [← h]; exact ⟨by omega, hUs⟩) ⟨⟨_, _, _, rfl, rfl, hlc, hcm, fun i x hx => ?_⟩, fun _ => ⟨_, rfl, .inr ⟨U, cap, cur, rfl, rfl, hcell, hlc, hcm, hcs, hel, fun o => ?_, fun o _ => .inl (by rw [hw]; omega)⟩⟩⟩
        · have hx : xf.us[i]? = some x := hx
          have hr := hel i x hx
          have hi := (List.getElem?_eq_some_iff.1 hx).1
          refine ⟨_, _, rfl, RepD.len hr, fun j u hj => ?_, hr⟩
          have hjl : j < 6 := by
            have h4 := (List.getElem?_eq_some_iff.1 hj).1
            have h5 : _ = 6 := RepD.len hr
            omega
          rw [List.getElem?_take, if_pos hjl, List.getElem?_drop] at hj
          rw [add_at]
          refine ⟨?_, .inr ⟨by show w.heap.size ≤ U; omega, hUs, fun _ => ?_⟩⟩
          · rw [cell_at hcell, ← Array.getElem?_toList, Nat.zero_add]; exact hj
          · show 0 + (i * 6 + j) < _
            omega
        · show (g.C U o ∨ (w.heap.size ≤ U ∧ U < w'.heap.size ∧ (U = U → o < xf.us.length * 6))) ↔ o < xf.us.length * 6
          constructor
          · rintro (h | h)
            · have := hlim _ _ h
              omega
            · exact h.2.2 rfl
          · intro h
            exact .inr ⟨by omega, hUs, fun _ => h⟩
    · rw [hno he]
      have h3 : cond (decide (ef = 0)) (some ((xf.c0, xf.c1, xf.c2, xf.c3, xf.c4, xf.c5, xf.c6, xf.us, 0) : ConfR)) (cond (decide (0 < ef) && decide (ef < 10)) (some ((0, 0, 0, 0, 0, 0, 0, [], ef) : ConfR)) none) = some y := h3
      rw [decide_eq_false he, cond_false] at h3
      cases hlt : (decide (0 < ef) && decide (ef < 10)) with
      | false => rw [hlt] at h3; cases h3
      | true =>
      rw [hlt] at h3
      have hy : ((0, 0, 0, 0, 0, 0, 0, [], ef) : ConfR) = y := by
        have h3 : some _ = some y := h3
        injection h3
      subst hy
      rw [Bool.and_eq_true, decide_eq_true_eq, decide_eq_true_eq] at hlt
      refine ⟨[.agg #[.int .i64 0, .int .i64 0, .int .i64 0, .int .i64 0, .int .i64 0, .int .i64 0, .int .i64 0, .slice none 0 0], .int .i64 ef], _, g.C, fun _ => none, rfl, rfl, rfl, hbel, fun _ _ _ => Iff.rfl, fun b o h => Nat.lt_of_lt_of_le (hlim b o h) hbel.size, rfl, fun k b h => (by cases h), fun k k' b h => (by cases h), fun i hi => ?_⟩
      match i, hi with
      | 0, _ =>
        have ti : ∀ {x : Int}, (Lit.int .i64 x).wf = true → RepL F ⟨g.C, fun _ => none, g.ρ, fun _ _ => []⟩ w' (exitO F_conf_Parse_sig) (.d (.int .i64) x) [.int .i64 x] := fun h => ⟨rfl, h⟩
        refine ⟨[.int .i64 0, .int .i64 0, .int .i64 0, .int .i64 0, .int .i64 0, .int .i64 0, .int .i64 0, .slice none 0 0], ?_, rfl⟩
        refine ⟨[_], _, rfl, ti rfl, [_], _, rfl, ti rfl, [_], _, rfl, ti rfl, [_], _, rfl, ti rfl, [_], _, rfl, ti rfl, [_], _, rfl, ti rfl, [_], _, rfl, ti rfl, [_], [], rfl, ?_, rfl⟩
        exact ⟨⟨none, 0, 0, rfl, rfl, Nat.le_refl _, by unfold maxLen; omega, fun i x hx => by
          have hx : List.nil[i]? = some x := hx
          simp at hx⟩, fun _ => ⟨_, rfl, .inl ⟨none, rfl, rfl, rfl⟩⟩⟩
      | 1, _ =>
        have kw : (Lit.int .i64 ef).wf = true := wf_of (by omega)
        exact rel_leaf.2 ⟨rfl, kw⟩
      | i + 2, hi => exact absurd hi (by show ¬ i + 2 < 2; omega)
end Go.Proofs.YtgfmfgombmpodaaGreatDoor
namespace Go.Proofs.YtgfmfgombmpodaaGreatDoor
open Pv
set_option linter.unusedVariables false
noncomputable def F_wlvlaw18_first : Option (Bool) :=
 (F_conf_Parse ([] : List (List Int))).bind fun x1 =>
 cond (x1.2.2.2.2.2.2.2.2 == 0)
 (cond (x1.1 == 16)
 (cond (x1.2.1 == 100)
 (cond (x1.2.2.1 == 65535)
 (cond (x1.2.2.2.1 == 1000)
 (cond (x1.2.2.2.2.1 == 1000000)
 (cond (x1.2.2.2.2.2.1 == 1000)
 (cond (x1.2.2.2.2.2.2.1 == 16384)
 (some ((x1.2.2.2.2.2.2.2.1.length : Int) == 0))
 (some false))
 (some false))
 (some false))
 (some false))
 (some false))
 (some false))
 (some false))
 (some false)
def F_wlvlaw18_first_sig : Sig := ⟨[], [(false, [.d .bool])]⟩
def F_wlvlaw18_first_ann : List (Nat × Ann) := []
noncomputable def F_wlvlaw18_first_env : Env := ⟨Tryz.prog, [(27, ⟨F_conf_Parse_sig, ⟨F_conf_Parse⟩⟩)], []⟩
theorem F_wlvlaw18_first_text : pvFn F_wlvlaw18_first_env F_wlvlaw18_first_ann Tryz.f25 F_wlvlaw18_first_sig = F_wlvlaw18_first := by kernel_rfl
noncomputable def F_wlvref_Dec_step (r0 : Int → Option (List Int)) (i1 : Int) : Option (List Int) :=
 cond (decide (i1 < 10))
 (some ([(IntKind.u8.wrap (IntKind.i64.wrap (48 + (maxI i1 0))))] : List Int))
 ((r0 (IntKind.i64.wrap (Int.tdiv i1 10))).bind fun s2 =>
 chk (Nat.ble (s2.length + ([(IntKind.u8.wrap (IntKind.i64.wrap (48 + (Int.tmod i1 10))))] : List Int).length) maxLen)
 (some (s2 ++ ([(IntKind.u8.wrap (IntKind.i64.wrap (48 + (Int.tmod i1 10))))] : List Int))))
def F_wlvref_Dec_sig : Sig := ⟨[.v false [.d (.int .i64)]], [(false, [.d .str])]⟩
def F_wlvref_Dec_ann : List (Nat × Ann) := []
noncomputable def F_wlvref_Dec_env (r0 : Int → Option (List Int)) : Env := ⟨Tryz.prog, [(30, ⟨F_wlvref_Dec_sig, ⟨r0⟩⟩)], []⟩
theorem F_wlvref_Dec_text (r0 : Int → Option (List Int)) : pvFn (F_wlvref_Dec_env r0) F_wlvref_Dec_ann Tryz.f30 F_wlvref_Dec_sig = F_wlvref_Dec_step r0 := by kernel_rfl
noncomputable def F_wlvref_Dec_fuel : Nat → Int → Option (List Int)
  | 0 => Pv.botF (α := List Int) [(.int .i64)]
  | k + 1 => F_wlvref_Dec_step (F_wlvref_Dec_fuel k)
noncomputable def F_wlvref_Dec : Int → Option (List Int) := F_wlvref_Dec_fuel 64
noncomputable def F_bytes_Equal (l1 : List Int) (l2 : List Int) : Option (Bool) :=
 some (l1 == l2)
def F_bytes_Equal_sig : Sig := ⟨[.v false [.d (.sl (.int .u8))], .v false [.d (.sl (.int .u8))]], [(false, [.d .bool])]⟩
def F_bytes_Equal_ann : List (Nat × Ann) := []
noncomputable def F_bytes_Equal_env : Env := ⟨Tryz.prog, [], []⟩
theorem F_bytes_Equal_text : pvFn F_bytes_Equal_env F_bytes_Equal_ann Tryz.f63 F_bytes_Equal_sig = F_bytes_Equal := by kernel_rfl
noncomputable def F_slices_Equal_conf_Rule_conf_Rule_L6 (l1 : List RuleD) (l2 : List RuleD) (s : Int) : Option (((Bool) ⊕ (Unit)) ⊕ (Int)) :=
 let i3 := s
 cond (decide (i3 < (l1.length : Int)))
 ((getI l1 i3).bind fun x4 =>
 (getI l2 i3).bind fun x5 =>
 cond (!((bEq x4.1 x5.1) && ((eqI x4.2.1 x5.2.1) && ((eqL x4.2.2.1 x5.2.2.1) && (((eqL x4.2.2.2.1.1 x5.2.2.2.1.1) && ((eqI x4.2.2.2.1.2 x5.2.2.2.1.2) && true)) && ((eqI x4.2.2.2.2.1 x5.2.2.2.2.1) && ((eqI x4.2.2.2.2.2 x5.2.2.2.2.2) && true)))))))
 (some (.inl (.inl false)))
 (some (.inr (IntKind.i64.wrap (i3 + 1)))))
 (some (.inl (.inr ())))
noncomputable def F_slices_Equal_conf_Rule_conf_Rule_J4 (s : Unit) : Option (Bool) :=
 some true
noncomputable def F_slices_Equal_conf_Rule_conf_Rule (l1 : List RuleD) (l2 : List RuleD) : Option (Bool) :=
 cond ((l1.length : Int) != (l2.length : Int))
 (some false)
 (joinC (S := Unit) (R := Bool)
 (loopC (S := Int) (R := (Bool) ⊕ (Unit)) (F_slices_Equal_conf_Rule_conf_Rule_L6 l1 l2) 0)
 (F_slices_Equal_conf_Rule_conf_Rule_J4))
def F_slices_Equal_conf_Rule_conf_Rule_sig : Sig := ⟨[.v false [.d (.sl (.pr .bool (.pr (.int .i64) (.pr .str (.pr (.pr .str (.int .i64)) (.pr (.int .i64) (.int .i64)))))))], .v false [.d (.sl (.pr .bool (.pr (.int .i64) (.pr .str (.pr (.pr .str (.int .i64)) (.pr (.int .i64) (.int .i64)))))))]], [(false, [.d .bool])]⟩
def F_slices_Equal_conf_Rule_conf_Rule_ann : List (Nat × Ann) := [(4, ⟨5, [], [], ([4, 5] ++ List.range' 11 15), []⟩), (6, ⟨7, [(13, false, [.d (.int .i64)])], [], ([4, 5] ++ List.range' 14 12), []⟩)]
noncomputable def F_slices_Equal_conf_Rule_conf_Rule_env : Env := ⟨Tryz.prog, [], []⟩
theorem F_slices_Equal_conf_Rule_conf_Rule_text : pvFn F_slices_Equal_conf_Rule_conf_Rule_env F_slices_Equal_conf_Rule_conf_Rule_ann Tryz.f64 F_slices_Equal_conf_Rule_conf_Rule_sig = F_slices_Equal_conf_Rule_conf_Rule := by kernel_rfl
noncomputable def F_conf_Same_1 (s1 : List Int) (l2 : List Int) (l3 : List Int) (i4 : Int) (z5 : (Nat × Nat)) (l6 : List RuleD) (s7 : List Int) (l8 : List Int) (l9 : List Int) (i10 : Int) (z11 : (Nat × Nat)) (l12 : List RuleD) : Option (Bool) :=
 cond (s1 == s7)
 ((F_bytes_Equal l2 l8).bind fun b13 =>
 cond b13
 ((F_bytes_Equal l3 l9).bind fun b14 =>
 cond b14
 (cond (i4 == i10)
 (cond (feq .f64 z5.1 z11.1 && feq .f64 z5.2 z11.2)
 ((F_slices_Equal_conf_Rule_conf_Rule l6 l12).bind fun b15 =>
 some b15)
 (some false))
 (some false))
 (some false))
 (some false))
 (some false)
def F_conf_Same_1_sig : Sig := ⟨[.v true [.d .str, .d (.sl (.int .u8)), .d (.sl (.int .u8)), .d (.int .i64), .d (.cpx .f64), .d (.sl (.pr .bool (.pr (.int .i64) (.pr .str (.pr (.pr .str (.int .i64)) (.pr (.int .i64) (.int .i64)))))))], .v true [.d .str, .d (.sl (.int .u8)), .d (.sl (.int .u8)), .d (.int .i64), .d (.cpx .f64), .d (.sl (.pr .bool (.pr (.int .i64) (.pr .str (.pr (.pr .str (.int .i64)) (.pr (.int .i64) (.int .i64)))))))]], [(false, [.d .bool])]⟩
def F_conf_Same_1_ann : List (Nat × Ann) := []
noncomputable def F_conf_Same_1_env : Env := ⟨Tryz.prog, [(63, ⟨F_bytes_Equal_sig, ⟨F_bytes_Equal⟩⟩), (64, ⟨F_slices_Equal_conf_Rule_conf_Rule_sig, ⟨F_slices_Equal_conf_Rule_conf_Rule⟩⟩)], []⟩
theorem F_conf_Same_1_text : pvFn F_conf_Same_1_env F_conf_Same_1_ann Tryz.f62 F_conf_Same_1_sig = F_conf_Same_1 := by kernel_rfl
end Go.Proofs.YtgfmfgombmpodaaGreatDoor
namespace Go.Proofs.YtgfmfgombmpodaaGreatDoor
open Pv
theorem F_bytes_Equal_sound {T : Tab} : SoundFn Tryz.prog T 63 F_bytes_Equal_sig ⟨F_bytes_Equal⟩ := by
  have h := fn_sound (T := T) (E := F_bytes_Equal_env) (by unfold Env.ok; exact fun p h => by cases h) (A := F_bytes_Equal_ann) (f := 63) (fn := Tryz.f63) (s := F_bytes_Equal_sig) Tryz.func63
  rw [F_bytes_Equal_text] at h
  exact h
theorem F_slices_Equal_conf_Rule_conf_Rule_sound {T : Tab} : SoundFn Tryz.prog T 64 F_slices_Equal_conf_Rule_conf_Rule_sig ⟨F_slices_Equal_conf_Rule_conf_Rule⟩ := by
  have h := fn_sound (T := T) (E := F_slices_Equal_conf_Rule_conf_Rule_env) (by unfold Env.ok; exact fun p h => by cases h) (A := F_slices_Equal_conf_Rule_conf_Rule_ann) (f := 64) (fn := Tryz.f64) (s := F_slices_Equal_conf_Rule_conf_Rule_sig) Tryz.func64
  rw [F_slices_Equal_conf_Rule_conf_Rule_text] at h
  exact h
theorem F_conf_Same_1_sound {T : Tab} : SoundFn Tryz.prog T 62 F_conf_Same_1_sig ⟨F_conf_Same_1⟩ := by
  have h := fn_sound (T := T) (E := F_conf_Same_1_env) (by unfold Env.ok; exact List.forall_mem_cons.2 ⟨F_bytes_Equal_sound, List.forall_mem_cons.2 ⟨F_slices_Equal_conf_Rule_conf_Rule_sound, fun p h => by cases h⟩⟩) (A := F_conf_Same_1_ann) (f := 62) (fn := Tryz.f62) (s := F_conf_Same_1_sig) Tryz.func62
  rw [F_conf_Same_1_text] at h
  exact h
end Go.Proofs.YtgfmfgombmpodaaGreatDoor
namespace Go.Proofs.YtgfmfgombmpodaaGreatDoor
open Go.RowKit Pv
set_option linter.unusedVariables false
noncomputable def sameU (u v : UserD) : Option Bool := F_conf_Same_1 u.1 u.2.1.1 u.2.1.2 u.2.2.1 u.2.2.2.1 u.2.2.2.2 v.1 v.2.1.1 v.2.1.2 v.2.2.1 v.2.2.2.1 v.2.2.2.2
noncomputable def eqfL : List UserD → List UserD → Option Bool
  | [], _ => some true
  | u :: us, v :: vs => (sameU u v).bind fun b => cond b (eqfL us vs) (some false)
  | _ :: _, [] => none
noncomputable def eqfP (us vs : List UserD) : Option Bool := cond (Nat.beq us.length vs.length) (eqfL us vs) (some false)
theorem same1_calls {W : World} {u v : UserD} {cs ds : List Value} (hu : RepD W (C00 W) userT u cs) (hv : RepD W (C00 W) userT v ds) {b : Bool} (h : sameU u v = some b) :
    Calls Tryz.prog 62 #[.agg ⟨cs⟩, .agg ⟨ds⟩] W fun e W' => e = .returned (.bool b) ∧ Below W.heap.size W W' := by
  have hT : ∀ p ∈ ([] : Tab), ∃ ty fr, W.heap[p.1]? = some (.cells p.2 ty fr) := fun p hp => by cases hp
  refine (fn_calls (s := F_conf_Same_1_sig) hT F_conf_Same_1_sound (al := [Arg.mk true (flat userT u) (.agg ⟨cs⟩), Arg.mk true (flat userT v) (.agg ⟨ds⟩)]) (y := b) rfl Tryz.func62 (fun a ha => ?_) ?_).mono fun e W' ⟨us, g', st', h1, h2, h3, h4, h5⟩ => ?_
  · rcases List.mem_cons.1 ha with rfl | ha
    · exact Arg.mk_ok (τ := userT) (ag := true) hu rfl
    · rcases List.mem_cons.1 ha with rfl | ha
      · exact Arg.mk_ok (τ := userT) (ag := true) hv rfl
      · cases ha
  · exact h
  · match us, h2 with
    | [x], _ =>
    refine ⟨?_, h4⟩
    have h3 : some _ = some st' := h3
    injection h3 with h3
    subst h3
    have := rBool (h5 0)
    rw [h1]
    show Ending.returned x = _
    rw [show x = _ from this]
    rfl
theorem store_cpz {P : Program} {w : World} (a : Addr) (m : Mode) (k : FloatKind) (x y : Nat) : (store a (.complex k x y) m).run P w = stored P w a (.complex k x y) m := run_store P w a _ m rfl
theorem rep_user {w : World} {C : Com} {us : List UserD} {a : Option Addr} {n c : Nat} (h : RepD w C (.sl userT) us [.slice a n c]) : us.length = n ∧ ∀ (i : Nat) (u : UserD), us[i]? = some u → ∃ (B o : Nat) (cs : List Value), a = some ⟨B, o, none⟩ ∧ cs.length = 6 ∧ RepD w C userT u cs ∧ ∀ j x, cs[j]? = some x → w.cell? ⟨B, o + (i * 6 + j), none⟩ = some x := by
  obtain ⟨a', n', c', e0, e1, e2, e3, e4⟩ := h
  injection e0 with e0 _
  injection e0 with q1 q2 q3
  subst q1; subst q2; subst q3
  refine ⟨e1, fun i u hu => ?_⟩
  obtain ⟨ad, cs, r1, r2, r3, r4⟩ := e4 i u hu
  have hlen : cs.length = 6 := r2
  have hsp : ad.spot = none := by
    obtain ⟨u0, hu0⟩ : ∃ u0, us[0]? = some u0 := ⟨_, List.getElem?_eq_getElem (by have := (List.getElem?_eq_some_iff.1 hu).1; omega)⟩
    obtain ⟨ad', cs', s1, s2, s3, s4⟩ := e4 0 u0 hu0
    rw [r1] at s1
    injection s1 with s1
    subst s1
    have hlen' : cs'.length = 6 := s2
    have hc0 := (s3 0 _ (List.getElem?_eq_getElem (by omega))).1
    rw [Nat.zero_mul, Nat.zero_add, show ad.add 0 = ad from by unfold Addr.add; simp] at hc0
    unfold World.cell? at hc0
    split at hc0
    · split at hc0
      · cases hc0
      · rename_i hs
        cases hsx : ad.spot with
        | none => rfl
        | some q => rw [hsx] at hs; simp at hs
    · cases hc0
  obtain ⟨B, o, sp⟩ := ad
  cases hsp
  refine ⟨B, o, cs, r1, hlen, r4, fun j x hj => ?_⟩
  have := (r3 j x hj).1
  rw [add_at] at this
  exact this
theorem rep_later {w w' : World} {t : Ty} {x : t.D} {cs : List Value} (h : RepD w (C00 w) t x cs) (hb : Below w.heap.size w w') : RepD w' (C00 w') t x cs :=
  h.gw fun a u ha hc => ⟨(hb.cell (cell_lt ha)).trans ha, show a.block < w'.heap.size from Nat.lt_of_lt_of_le (cell_lt ha) hb.size⟩
theorem user_form {w : World} {C : Com} {u : UserD} {cs : List Value} (h : RepD w C userT u cs) : ∃ (s : ByteArray) (a1 a2 a3 : Option Addr) (n1 n2 n3 c1 c2 c3 : Nat), cs = [.string s, .slice a1 n1 c1, .slice a2 n2 c2, .int .i64 u.2.2.1, .complex .f64 u.2.2.2.1.1 u.2.2.2.1.2, .slice a3 n3 c3] := by
  obtain ⟨k1, k2, rfl, ⟨s, rfl, _⟩, l1, l2, rfl, ⟨m1, m2, rfl, ⟨a1, n1, c1, rfl, _⟩, ⟨a2, n2, c2, rfl, _⟩⟩, o1, o2, rfl, ⟨rfl, _⟩, p1, p2, rfl, rfl, ⟨a3, n3, c3, rfl, _⟩⟩ := h
  exact ⟨_, _, _, _, _, _, _, _, _, _, rfl⟩
set_option maxHeartbeats 8000000 in
set_option maxRecDepth 1000000 in
theorem eqf_walk {w : World} {us vs : List UserD} {a b : Option Addr} {n m c d : Nat} (hu : RepD w (C00 w) (.sl userT) us [.slice a n c]) (hv : RepD w (C00 w) (.sl userT) vs [.slice b m d]) (hn : n ≤ 1000000) {r : Bool} (h : eqfP us vs = some r) :
    Calls Tryz.prog 61 #[.slice a n c, .slice b m d, .func (.func 62) #[] #[]] w fun e w' => e = .returned (.bool r) ∧ Below w.heap.size w w' := by
  obtain ⟨hul, hu1⟩ := rep_user hu
  obtain ⟨hvl, hv1⟩ := rep_user hv
  have HC : Aside ((∀ (i : Nat) (u : UserD), us[i]? = some u → ∃ (B o : Nat) (cs : List Value), a = some ⟨B, o, none⟩ ∧ cs.length = 6 ∧ RepD w (C00 w) userT u cs ∧ ∀ j x, cs[j]? = some x → w.cell? ⟨B, o + (i * 6 + j), none⟩ = some x) ∧ ∀ (i : Nat) (u : UserD), vs[i]? = some u → ∃ (B o : Nat) (cs : List Value), b = some ⟨B, o, none⟩ ∧ cs.length = 6 ∧ RepD w (C00 w) userT u cs ∧ ∀ j x, cs[j]? = some x → w.cell? ⟨B, o + (i * 6 + j), none⟩ = some x) := ⟨hu1, hv1⟩
  have HL : Aside (us.length = n ∧ vs.length = m) := ⟨hul, hvl⟩
  have HH : Aside (eqfP us vs = some r) := h
  clear hu hv hu1 hv1 hul hvl h
  by_cases hnm : n = m
  · subst hnm
    have h : eqfL us vs = some r := by
      have h := HH.out
      unfold eqfP at h
      rw [HL.out.1, HL.out.2, show Nat.beq n n = true from by simp, cond_true] at h
      exact h
    have HE : Aside (eqfL us vs = some r) := h
    clear h HH
    go_enter Tryz.func61, Tryz.ntmps61
    go_wp2
    go_loopw [17] (fun v wr => ∃ k : Nat, k ≤ n ∧ v = .int .i64 k ∧ Below w.heap.size w wr ∧ Aside (eqfL (us.drop k) (vs.drop k) = some r)) (fun v _ => n - (RowKit.intOf v).toNat)
    case atStart => exact ⟨0, by omega, rfl, Below.refl _ _, HE.out⟩
    case round =>
      obtain ⟨k, hk, rfl, hb, HA⟩ := hrel
      by_cases hlt : k < n
      · obtain ⟨u, hku⟩ : ∃ u, us[k]? = some u := ⟨_, List.getElem?_eq_getElem (by rw [HL.out.1]; exact hlt)⟩
        obtain ⟨v, hkv⟩ : ∃ v, vs[k]? = some v := ⟨_, List.getElem?_eq_getElem (by rw [HL.out.2]; exact hlt)⟩
        obtain ⟨B, o, cs, rfl, hcs6, hru, hcu⟩ := HC.out.1 k u hku
        obtain ⟨B', o', ds, rfl, hds6, hrv, hdv⟩ := HC.out.2 k v hkv
        obtain ⟨s1, p1, p2, p3, n1, n2, n3, e1, e2, e3, rfl⟩ := user_form hru
        obtain ⟨s2, q1, q2, q3, m1, m2, m3, f1, f2, f3, rfl⟩ := user_form hrv
        have cell : ∀ {p : Addr} {z : Value}, w.cell? p = some z → wr.cell? p = some z := fun hp => (hb.cell (cell_lt hp)).trans hp
        have a0 := cell (hcu 0 _ rfl)
        have a1 := cell (hcu 1 _ rfl)
        have a2 := cell (hcu 2 _ rfl)
        have a3 := cell (hcu 3 _ rfl)
        have a4 := cell (hcu 4 _ rfl)
        have a5 := cell (hcu 5 _ rfl)
        have b0 := cell (hdv 0 _ rfl)
        have b1 := cell (hdv 1 _ rfl)
        have b2 := cell (hdv 2 _ rfl)
        have b3 := cell (hdv 3 _ rfl)
        have b4 := cell (hdv 4 _ rfl)
        have b5 := cell (hdv 5 _ rfl)
        simp only [Nat.add_zero, ← Nat.add_assoc] at a0 a1 a2 a3 a4 a5 b0 b1 b2 b3 b4 b5
        have hAlt := cell_lt a0
        have hBlt := cell_lt b0
        have hun : us.drop k = u :: us.drop (k + 1) := by
          have := List.drop_eq_getElem_cons (l := us) (i := k) (by rw [HL.out.1]; exact hlt)
          rw [this]
          congr 1
          have h2 := List.getElem?_eq_getElem (l := us) (i := k) (by rw [HL.out.1]; exact hlt)
          rw [h2] at hku
          injection hku
        have hvn : vs.drop k = v :: vs.drop (k + 1) := by
          have := List.drop_eq_getElem_cons (l := vs) (i := k) (by rw [HL.out.2]; exact hlt)
          rw [this]
          congr 1
          have h2 := List.getElem?_eq_getElem (l := vs) (i := k) (by rw [HL.out.2]; exact hlt)
          rw [h2] at hkv
          injection hkv
        have hA := HA.out
        rw [hun, hvn] at hA
        obtain ⟨q, hq, hA⟩ := Option.bind_eq_some_iff.1 (show (sameU u v).bind (fun b => cond b (eqfL (us.drop (k + 1)) (vs.drop (k + 1))) (some false)) = some r from hA)
        have hcl : ∀ {W : World}, Below wr.heap.size wr W → Calls Tryz.prog 62 #[.agg #[.string s1, .slice p1 n1 e1, .slice p2 n2 e2, .int .i64 u.2.2.1, .complex .f64 u.2.2.2.1.1 u.2.2.2.1.2, .slice p3 n3 e3], .agg #[.string s2, .slice q1 m1 f1, .slice q2 m2 f2, .int .i64 v.2.2.1, .complex .f64 v.2.2.2.1.1 v.2.2.2.1.2, .slice q3 m3 f3]] W fun e W' => e = .returned (.bool q) ∧ Below W.heap.size W W' := fun hW => same1_calls (rep_later (rep_later hru hb) hW) (rep_later (rep_later hrv hb) hW) hq
        have hcl := @hcl
        have HQ : Aside (cond q (eqfL (us.drop (k + 1)) (vs.drop (k + 1))) (some false) = some r) := hA
        have hs : w.heap.size ≤ wr.heap.size := hb.size
        clear hku hkv hru hrv hcu hdv hcs6 hds6 hun hvn hA HA hq HC
        have hsc := @store_cpz Tryz.prog
        cases q with
        | true =>
          go_wp2_with (first | (go_at_call 62; refine (hcl ?bel).mono ?_; rotate_left; rintro e w' ⟨rfl, hw'⟩) | go_in)
          case bel => exact ((Below.refl _ _).alloc (Nat.le_refl _) _).alloc (by simp) _
          refine ⟨⟨k + 1, by omega, by simp, ((hb.alloc hs _).alloc (by simp; omega) _).trans (hw'.mono (by simp; omega)), HQ.out⟩, by simp [RowKit.intOf]; omega⟩
        | false =>
          have hr : false = r := Option.some.inj HQ.out
          subst hr
          go_wp2_with (first | (go_at_call 62; refine (hcl ?bel).mono ?_; rotate_left; rintro e w' ⟨rfl, hw'⟩) | go_in)
          case bel => exact ((Below.refl _ _).alloc (Nat.le_refl _) _).alloc (by simp) _
          go_ret
          exact ⟨rfl, ((hb.alloc hs _).alloc (by simp; omega) _).trans (hw'.mono (by simp; omega))⟩
      · obtain rfl : k = n := by omega
        have hr : true = r := by
          have h := HA.out
          rw [List.drop_of_length_le (by rw [HL.out.1]; omega)] at h
          exact Option.some.inj h
        subst hr
        go_wp2
        go_ret
        exact ⟨rfl, hb⟩
  · have hr : false = r := by
      have h := HH.out
      unfold eqfP at h
      rw [HL.out.1, HL.out.2, show Nat.beq n m = false from Bool.eq_false_iff.2 fun e => hnm (Nat.eq_of_beq_eq_true e), cond_false] at h
      exact Option.some.inj h
    subst hr
    clear HH HC HL
    go_enter Tryz.func61, Tryz.ntmps61
    go_wp2
    go_ret
    exact ⟨rfl, Below.refl _ _⟩
def confV (C : Nat → Int) (v : Value) : Array Value := #[.int .i64 (C 0), .int .i64 (C 1), .int .i64 (C 2), .int .i64 (C 3), .int .i64 (C 4), .int .i64 (C 5), .int .i64 (C 6), v]
noncomputable def sameC (C D : Nat → Int) (us vs : List UserD) : Option Bool := cond ((List.range 7).all fun k => C k == D k) (eqfP us vs) (some false)
theorem conf_cell {w : World} {B : Nat} {T : TypeId} {C : Nat → Int} {v : Value} (h : w.heap[B]? = some (.cells (confV C v) T (0, 0))) {k : Nat} (hk : k < 7) : w.cell? ⟨B, k, none⟩ = some (.int .i64 (C k)) := by
  rw [cell_at h]
  match k, hk with
  | 0, _ => rfl
  | 1, _ => rfl
  | 2, _ => rfl
  | 3, _ => rfl
  | 4, _ => rfl
  | 5, _ => rfl
  | 6, _ => rfl
set_option maxHeartbeats 8000000 in
set_option maxRecDepth 1000000 in
theorem same_walk {w : World} {C D : Nat → Int} {us vs : List UserD} {a b : Option Addr} {n m c d : Nat} (hu : RepD w (C00 w) (.sl userT) us [.slice a n c]) (hv : RepD w (C00 w) (.sl userT) vs [.slice b m d]) (hn : n ≤ 1000000) {r : Bool} (h : sameC C D us vs = some r) :
    Calls Tryz.prog 31 #[.agg (confV C (.slice a n c)), .agg (confV D (.slice b m d))] w fun e w' => e = .returned (.bool r) ∧ Below w.heap.size w w' := by
  have HU : Aside (RepD w (C00 w) (.sl userT) us [.slice a n c] ∧ RepD w (C00 w) (.sl userT) vs [.slice b m d] ∧ sameC C D us vs = some r) := ⟨hu, hv, h⟩
  clear hu hv h
  go_enter Tryz.func31, Tryz.ntmps31
  go_wp2_with (go_at_call 60; refine (lims_walk w.heap.size _).mono ?_; rintro e W1 ⟨rfl, hB, hb1⟩)
  have hs1 : w.heap.size + 3 ≤ W1.heap.size := by have := (Array.getElem?_eq_some_iff.1 hB).1; simp at this; omega
  have hC1 : W1.heap[w.heap.size]? = some (.cells (confV C (.slice a n c)) 51 (0, 0)) := by
    rw [hb1.block _ (by simp; omega), heap_alloc_old _ _ (by simp), heap_alloc_new]
  have hD1 : W1.heap[w.heap.size + 1]? = some (.cells (confV D (.slice b m d)) 51 (0, 0)) := by
    rw [hb1.block _ (by simp), show w.heap.size + 1 = (w.alloc (.cells (confV C (.slice a n c)) 51)).heap.size from by simp, heap_alloc_new]
  have hb1 : Below w.heap.size w W1 := ⟨hb1.os, hb1.tape, hb1.output, by omega, fun b hb => (hb1.block b (by simp; omega)).trans (by rw [heap_alloc_old _ _ (by simp; omega), heap_alloc_old _ _ hb])⟩
  have HB : Aside (W1.heap[w.heap.size + 1 + 1]? = some (.cells (limCells w.heap.size) 124 (0, 0)) ∧ W1.heap[w.heap.size]? = some (.cells (confV C (.slice a n c)) 51 (0, 0)) ∧ W1.heap[w.heap.size + 1]? = some (.cells (confV D (.slice b m d)) 51 (0, 0))) := ⟨by simpa using hB, hC1, hD1⟩
  clear hB hC1 hD1
  go_loopw [9] (fun vi wr => ∃ k : Nat, vi = .int .i64 k ∧ k ≤ 7 ∧ Below W1.heap.size W1 wr ∧ Aside (∀ j, j < k → C j = D j)) (fun vi _ => 7 - (intOf vi).toNat)
  case atStart => exact ⟨0, rfl, by omega, Below.refl _ _, fun j hj => absurd hj (by omega)⟩
  case round =>
    obtain ⟨k, rfl, hk, hbr, HA⟩ := hrel
    have hb2 : Below w.heap.size w wr := hb1.trans (hbr.mono hb1.size)
    have blk : ∀ {B : Nat} {o : Obj}, W1.heap[B]? = some o → wr.heap[B]? = some o := fun h => (hbr.block _ (Array.getElem?_eq_some_iff.1 h).1).trans h
    have hLr := blk HB.out.1
    have hCr := blk HB.out.2.1
    have hDr := blk HB.out.2.2
    have hsr : w.heap.size + 3 ≤ wr.heap.size := Nat.le_trans hs1 hbr.size
    have hl0 : w.heap.size < wr.heap.size := by omega
    have hl1 : w.heap.size + 1 < wr.heap.size := by omega
    by_cases hk7 : k < 7
    · obtain ⟨k0, k1, k2, k3⟩ := lim_at hLr hk7
      have hCk := conf_cell hCr hk7
      obtain ⟨lw, hlw⟩ : ∃ lw, limW k = lw := ⟨_, rfl⟩
      obtain ⟨llo, hllo⟩ : ∃ l, limLo k = l := ⟨_, rfl⟩
      obtain ⟨lhi, hlhi⟩ : ∃ l, limHi k = l := ⟨_, rfl⟩
      rw [hlw] at k0
      rw [hllo] at k1
      rw [hlhi] at k2
      have key : ∀ W' W2 : World, W'.heap = (wr.alloc (.cells #[.string lw, .int .i64 llo, .int .i64 lhi, .pointer (some ⟨w.heap.size, k, none⟩)] 124)).heap → Below W'.heap.size W' W2 → W2.heap[wr.heap.size + 1]? = some (.cells (limCells (w.heap.size + 1)) 124 (0, 0)) → W2.cell? ⟨wr.heap.size + 1, k * 4 + 3, none⟩ = some (.pointer (some ⟨w.heap.size + 1, k, none⟩)) ∧ W2.cell? ⟨w.heap.size + 1, k, none⟩ = some (.int .i64 (D k)) ∧ W2.cell? ⟨wr.heap.size, 3, none⟩ = some (.pointer (some ⟨w.heap.size, k, none⟩)) ∧ W2.cell? ⟨w.heap.size, k, none⟩ = some (.int .i64 (C k)) ∧ wr.heap.size + 2 ≤ W2.heap.size := by
        intro W' W2 hW hb hL
        have hz : W'.heap.size = wr.heap.size + 1 := by rw [hW]; simp
        have old : ∀ {B : Nat} {o : Obj}, wr.heap[B]? = some o → W2.heap[B]? = some o := fun {B o} h => by
          have hB := (Array.getElem?_eq_some_iff.1 h).1
          rw [hb.block B (by omega), hW, heap_alloc_old _ _ hB, h]
        refine ⟨(lim_at hL hk7).2.2.2, conf_cell (old hDr) hk7, ?_, conf_cell (old hCr) hk7, (Array.getElem?_eq_some_iff.1 hL).1⟩
        rw [cell_at (show W2.heap[wr.heap.size]? = _ from by rw [hb.block _ (by omega), hW, heap_alloc_new])]
        rfl
      have hkey : Aside _ := key
      have HR : Aside (_ ∧ _ ∧ _) := ⟨hLr, hCr, hDr⟩
      clear key hlw hllo hlhi hLr hCr hDr blk
      go_wp2
      go_region_with (go_at_call 60; (refine (lims_walk (w.heap.size + 1) _).mono ?_; rintro e W2 ⟨rfl, hL2, hb3⟩; obtain ⟨d1, d2, d3, d4, d5⟩ := hkey.out _ W2 (by rfl) hb3 (by simpa using hL2)))
      all_goals
        have hb4 : Below W1.heap.size W1 W2 := hbr.trans ⟨hb3.os, hb3.tape, hb3.output, by omega, fun b hb => (hb3.block b (by simp [World.drew]; have := hbr.size; omega)).trans (heap_alloc_old wr _ (Nat.lt_of_lt_of_le hb hbr.size))⟩
        cases hq : (C k != D k) with
        | false =>
          go_wp2
          refine ⟨⟨k + 1, by simp, by omega, hb4, fun j hj => ?_⟩, by simp [intOf]; omega⟩
          rcases Nat.lt_or_ge j k with h | h
          · exact HA.out j h
          · obtain rfl : j = k := by omega
            simpa using hq
        | true =>
          go_wp2
          go_ret
          have hr := HU.out.2.2
          unfold sameC at hr
          rw [show ((List.range 7).all fun k => C k == D k) = false from by
            rw [List.all_eq_false]
            exact ⟨k, List.mem_range.2 hk7, by simpa using hq⟩] at hr
          injection hr with hr
          subst hr
          refine ⟨rfl, hb1.trans (hb4.mono hb1.size)⟩
    · have hk7 : k = 7 := by omega
      subst hk7
      have hr := HU.out.2.2
      unfold sameC at hr
      rw [show ((List.range 7).all fun k => C k == D k) = true from by
        rw [List.all_eq_true]
        exact fun j hj => by simpa using HA.out j (List.mem_range.1 hj)] at hr
      have hC7 : wr.cell? ⟨w.heap.size, 7, none⟩ = some (.slice a n c) := by rw [cell_at hCr]; rfl
      have hD7 : wr.cell? ⟨w.heap.size + 1, 7, none⟩ = some (.slice b m d) := by rw [cell_at hDr]; rfl
      have hcl : Calls Tryz.prog 61 #[.slice a n c, .slice b m d, .func (.func 62) #[] #[]] wr fun e w' => e = .returned (.bool r) ∧ Below wr.heap.size wr w' := eqf_walk (rep_later HU.out.1 hb2) (rep_later HU.out.2.1 hb2) hn hr
      go_wp2_with (go_at_call 61; refine hcl.mono ?_; rintro e w9 ⟨rfl, hb9⟩)
      all_goals
        go_ret
        exact ⟨rfl, hb2.trans (hb9.mono (by omega))⟩
def seven (c0 c1 c2 c3 c4 c5 c6 : Int) : Nat → Int
  | 0 => c0
  | 1 => c1
  | 2 => c2
  | 3 => c3
  | 4 => c4
  | 5 => c5
  | _ => c6
def F_conf_Same_sig : Sig := ⟨[.v true [.d (.int .i64), .d (.int .i64), .d (.int .i64), .d (.int .i64), .d (.int .i64), .d (.int .i64), .d (.int .i64), .d (.sl userT)], .v true [.d (.int .i64), .d (.int .i64), .d (.int .i64), .d (.int .i64), .d (.int .i64), .d (.int .i64), .d (.int .i64), .d (.sl userT)]], [(false, [.d .bool])]⟩
noncomputable def F_conf_Same (c0 c1 c2 c3 c4 c5 c6 : Int) (us : List UserD) (d0 d1 d2 d3 d4 d5 d6 : Int) (vs : List UserD) : Option Bool := cond (Nat.ble us.length 1000000) (sameC (seven c0 c1 c2 c3 c4 c5 c6) (seven d0 d1 d2 d3 d4 d5 d6) us vs) none
theorem F_conf_Same_sound {T : Tab} : SoundFn Tryz.prog T 31 F_conf_Same_sig ⟨F_conf_Same⟩ := by
  refine sound_of rfl fun F g O xs ls y tmf w args hT hw hlim hls happ hsz hr => ?_
  obtain ⟨(c0 : Int), _, rfl, h1⟩ := appF_inv_c happ
  obtain ⟨(c1 : Int), _, rfl, h2⟩ := appF_inv_c h1
  obtain ⟨(c2 : Int), _, rfl, h3⟩ := appF_inv_c h2
  obtain ⟨(c3 : Int), _, rfl, h4⟩ := appF_inv_c h3
  obtain ⟨(c4 : Int), _, rfl, h5⟩ := appF_inv_c h4
  obtain ⟨(c5 : Int), _, rfl, h6⟩ := appF_inv_c h5
  obtain ⟨(c6 : Int), _, rfl, h7⟩ := appF_inv_c h6
  obtain ⟨(us : List UserD), _, rfl, h8⟩ := appF_inv_c h7
  obtain ⟨(d0 : Int), _, rfl, h9⟩ := appF_inv_c h8
  obtain ⟨(d1 : Int), _, rfl, h10⟩ := appF_inv_c h9
  obtain ⟨(d2 : Int), _, rfl, h11⟩ := appF_inv_c h10
  obtain ⟨(d3 : Int), _, rfl, h12⟩ := appF_inv_c h11
  obtain ⟨(d4 : Int), _, rfl, h13⟩ := appF_inv_c h12
  obtain ⟨(d5 : Int), _, rfl, h14⟩ := appF_inv_c h13
  obtain ⟨(d6 : Int), _, rfl, h15⟩ := appF_inv_c h14
  obtain ⟨(vs : List UserD), _, rfl, h16⟩ := appF_inv_c (ts := []) h15
  obtain ⟨rfl, h17⟩ := appF_inv_n h16
  have hls' : some [Leaf.d (.int .i64) c0, .d (.int .i64) c1, .d (.int .i64) c2, .d (.int .i64) c3, .d (.int .i64) c4, .d (.int .i64) c5, .d (.int .i64) c6, .d (.sl userT) us, .d (.int .i64) d0, .d (.int .i64) d1, .d (.int .i64) d2, .d (.int .i64) d3, .d (.int .i64) d4, .d (.int .i64) d5, .d (.int .i64) d6, .d (.sl userT) vs] = some ls := hls
  injection hls' with hls'
  subst hls'
  have r0 : RelV F g w O (args.getD 0 undef) true [Leaf.d (.int .i64) c0, .d (.int .i64) c1, .d (.int .i64) c2, .d (.int .i64) c3, .d (.int .i64) c4, .d (.int .i64) c5, .d (.int .i64) c6, .d (.sl userT) us] := hr 0
  have r1 : RelV F g w O (args.getD 1 undef) true [Leaf.d (.int .i64) d0, .d (.int .i64) d1, .d (.int .i64) d2, .d (.int .i64) d3, .d (.int .i64) d4, .d (.int .i64) d5, .d (.int .i64) d6, .d (.sl userT) vs] := hr 1
  obtain ⟨_, ⟨_, _, rfl, ⟨rfl, _⟩, _, _, rfl, ⟨rfl, _⟩, _, _, rfl, ⟨rfl, _⟩, _, _, rfl, ⟨rfl, _⟩, _, _, rfl, ⟨rfl, _⟩, _, _, rfl, ⟨rfl, _⟩, _, _, rfl, ⟨rfl, _⟩, _, _, rfl, r8, rfl⟩, e0⟩ := r0
  obtain ⟨_, ⟨_, _, rfl, ⟨rfl, _⟩, _, _, rfl, ⟨rfl, _⟩, _, _, rfl, ⟨rfl, _⟩, _, _, rfl, ⟨rfl, _⟩, _, _, rfl, ⟨rfl, _⟩, _, _, rfl, ⟨rfl, _⟩, _, _, rfl, ⟨rfl, _⟩, _, _, rfl, s8, rfl⟩, e1⟩ := r1
  have r8 : RepD w g.C (.sl userT) us _ := r8
  have s8 : RepD w g.C (.sl userT) vs _ := s8
  have r9 : RepD w (C00 w) (.sl userT) us _ := r8.gw fun a u ha hc => ⟨ha, hlim _ _ hc⟩
  have s9 : RepD w (C00 w) (.sl userT) vs _ := s8.gw fun a u ha hc => ⟨ha, hlim _ _ hc⟩
  clear r8 s8
  obtain ⟨a, n, c, rfl, q⟩ := r9
  obtain ⟨b, m, d, rfl, q'⟩ := s9
  rw [args_2 hsz, show args.getD 0 undef = .agg (confV (seven c0 c1 c2 c3 c4 c5 c6) (.slice a n c)) from e0, show args.getD 1 undef = .agg (confV (seven d0 d1 d2 d3 d4 d5 d6) (.slice b m d)) from e1]
  have h : F_conf_Same c0 c1 c2 c3 c4 c5 c6 us d0 d1 d2 d3 d4 d5 d6 vs = some y := h17
  unfold F_conf_Same at h
  cases hb : Nat.ble us.length 1000000 with
  | false => rw [hb] at h; cases h
  | true =>
    rw [hb, cond_true] at h
    have hn : n ≤ 1000000 := by
      have := Nat.le_of_ble_eq_true hb
      have e : us.length = n := q.1
      omega
    refine (same_walk (w := w) ⟨a, n, c, rfl, q⟩ ⟨b, m, d, rfl, q'⟩ hn h).mono ?_
    rintro e w' ⟨rfl, hbel⟩
    refine ⟨[.bool y], _, g.C, fun _ => none, rfl, rfl, rfl, hbel, fun _ _ _ => Iff.rfl, fun b o h => Nat.lt_of_lt_of_le (hlim b o h) hbel.size, rfl, fun k b h => (by cases h), fun k k' b h => (by cases h), fun i hi => ?_⟩
    match i, hi with
    | 0, _ => exact rel_leaf.2 rfl
    | i + 1, hi => exact absurd hi (by show ¬ i + 1 < 1; omega)
end Go.Proofs.YtgfmfgombmpodaaGreatDoor
namespace Go.Proofs.YtgfmfgombmpodaaGreatDoor
open Pv
set_option linter.unusedVariables false
noncomputable def F_wlvlaw18_ConfLimits_L19 (i1 : Int) (i2 : Int) (s : List Int × List Int × Int × Int × Int × Int × Int × Int × Int × Int × List UserD × Int × Int × Int × Int × Int × Int × Int × List UserD) : Option (((Bool) ⊕ (List Int × Int × Int × Int × Int × Int × Int × Int × List UserD × Int × Int × Int × Int × Int × Int × Int × List UserD)) ⊕ (List Int × List Int × Int × Int × Int × Int × Int × Int × Int × Int × List UserD × Int × Int × Int × Int × Int × Int × Int × List UserD)) :=
 let l12 := s.1; let l13 := s.2.1; let i14 := s.2.2.1; let i15 := s.2.2.2.1; let i17 := s.2.2.2.2.1; let i18 := s.2.2.2.2.2.1; let i19 := s.2.2.2.2.2.2.1; let i20 := s.2.2.2.2.2.2.2.1; let i21 := s.2.2.2.2.2.2.2.2.1; let i22 := s.2.2.2.2.2.2.2.2.2.1; let l23 := s.2.2.2.2.2.2.2.2.2.2.1; let i24 := s.2.2.2.2.2.2.2.2.2.2.2.1; let i25 := s.2.2.2.2.2.2.2.2.2.2.2.2.1; let i26 := s.2.2.2.2.2.2.2.2.2.2.2.2.2.1; let i27 := s.2.2.2.2.2.2.2.2.2.2.2.2.2.2.1; let i28 := s.2.2.2.2.2.2.2.2.2.2.2.2.2.2.2.1; let i29 := s.2.2.2.2.2.2.2.2.2.2.2.2.2.2.2.2.1; let i30 := s.2.2.2.2.2.2.2.2.2.2.2.2.2.2.2.2.2.1; let l31 := s.2.2.2.2.2.2.2.2.2.2.2.2.2.2.2.2.2.2
 cond (decide (i14 < 7))
 (cond (i14 == i1)
 ((getI l12 i14).bind fun i33 =>
 cond (i33 != i2)
 (some (.inl (.inl false)))
 (cond (i14 != i1)
 ((getI l12 i14).bind fun i34 =>
 (getI l13 i14).bind fun i35 =>
 cond (i34 != i35)
 (some (.inl (.inl false)))
 (some (.inr (l12, l13, (IntKind.i64.wrap (i14 + 1)), i15, i17, i18, i19, i20, i21, i22, l23, i24, i25, i26, i27, i28, i29, i30, l31))))
 (some (.inr (l12, l13, (IntKind.i64.wrap (i14 + 1)), i15, i17, i18, i19, i20, i21, i22, l23, i24, i25, i26, i27, i28, i29, i30, l31)))))
 (cond false
 (some (.inl (.inl false)))
 (cond (i14 != i1)
 ((getI l12 i14).bind fun i36 =>
 (getI l13 i14).bind fun i37 =>
 cond (i36 != i37)
 (some (.inl (.inl false)))
 (some (.inr (l12, l13, (IntKind.i64.wrap (i14 + 1)), i15, i17, i18, i19, i20, i21, i22, l23, i24, i25, i26, i27, i28, i29, i30, l31))))
 (some (.inr (l12, l13, (IntKind.i64.wrap (i14 + 1)), i15, i17, i18, i19, i20, i21, i22, l23, i24, i25, i26, i27, i28, i29, i30, l31))))))
 (some (.inl (.inr (l13, i15, i17, i18, i19, i20, i21, i22, l23, i24, i25, i26, i27, i28, i29, i30, l31))))
noncomputable def F_wlvlaw18_ConfLimits_J17 (i1 : Int) (i2 : Int) (x7 : Int × Int × Int × Int × Int × Int × Int × List UserD × Int) (s : List Int × Int × Int × Int × Int × Int × Int × Int × List UserD × Int × Int × Int × Int × Int × Int × Int × List UserD) : Option (Bool) :=
 let l38 := s.1; let i39 := s.2.1; let i40 := s.2.2.1; let i41 := s.2.2.2.1; let i42 := s.2.2.2.2.1; let i43 := s.2.2.2.2.2.1; let i44 := s.2.2.2.2.2.2.1; let i45 := s.2.2.2.2.2.2.2.1; let l46 := s.2.2.2.2.2.2.2.2.1; let i47 := s.2.2.2.2.2.2.2.2.2.1; let i48 := s.2.2.2.2.2.2.2.2.2.2.1; let i49 := s.2.2.2.2.2.2.2.2.2.2.2.1; let i50 := s.2.2.2.2.2.2.2.2.2.2.2.2.1; let i51 := s.2.2.2.2.2.2.2.2.2.2.2.2.2.1; let i52 := s.2.2.2.2.2.2.2.2.2.2.2.2.2.2.1; let i53 := s.2.2.2.2.2.2.2.2.2.2.2.2.2.2.2.1; let l54 := s.2.2.2.2.2.2.2.2.2.2.2.2.2.2.2.2
 (F_wlvlaw18_first).bind fun b55 =>
 cond (b55 && (x7.2.2.2.2.2.2.2.2 == 0))
 ((F_conf_Same i39 i40 i41 i42 i43 i44 i45 l46 i47 i48 i49 i50 i51 i52 i53 l54).bind fun b56 =>
 (getI l38 i1).bind fun i57 =>
 some (bEq b56 (i2 == i57)))
 (some false)
noncomputable def F_wlvlaw18_ConfLimits (i1 : Int) (i2 : Int) : Option (Bool) :=
 (F_wlvlaw18_first).bind fun b3 =>
 cond (!b3)
 (some false)
 (cond (((decide (i1 < 0)) || (decide (i1 > 6))) || (decide (i2 < 0)))
 ((F_wlvlaw18_first).bind fun b4 =>
 some b4)
 ((getI ([([99, 111, 110, 110, 115] : List Int), ([115, 116, 114, 101, 97, 109, 115] : List Int), ([98, 117, 102, 102, 101, 114] : List Int), ([108, 111, 103] : List Int), ([105, 100, 108, 101] : List Int), ([100, 105, 97, 108] : List Int), ([108, 105, 115, 116] : List Int)] : List (List Int)) i1).bind fun s5 =>
 chk (Nat.ble (([108, 105, 109, 105, 116, 32] : List Int).length + s5.length) maxLen)
 (chk (Nat.ble ((([108, 105, 109, 105, 116, 32] : List Int) ++ s5).length + ([32] : List Int).length) maxLen)
 ((F_wlvref_Dec i2).bind fun s6 =>
 chk (Nat.ble (((([108, 105, 109, 105, 116, 32] : List Int) ++ s5) ++ ([32] : List Int)).length + s6.length) maxLen)
 ((F_conf_Parse ([(((([108, 105, 109, 105, 116, 32] : List Int) ++ s5) ++ ([32] : List Int)) ++ s6)] : List (List Int))).bind fun x7 =>
 (getI ([16, 100, 65535, 100000, 1099511627776, 1099511627776, 16384] : List Int) i1).bind fun i9 =>
 cond (decide (i2 ≤ i9))
 (cond (!((decide (i2 > 0)) || (i1 == 3)))
 ((F_wlvlaw18_first).bind fun b10 =>
 some (b10 && (x7.2.2.2.2.2.2.2.2 == 2)))
 ((F_conf_Parse ([] : List (List Int))).bind fun x11 =>
 joinC (S := List Int × Int × Int × Int × Int × Int × Int × Int × List UserD × Int × Int × Int × Int × Int × Int × Int × List UserD) (R := Bool)
 (loopC (S := List Int × List Int × Int × Int × Int × Int × Int × Int × Int × Int × List UserD × Int × Int × Int × Int × Int × Int × Int × List UserD) (R := (Bool) ⊕ (List Int × Int × Int × Int × Int × Int × Int × Int × List UserD × Int × Int × Int × Int × Int × Int × Int × List UserD)) (F_wlvlaw18_ConfLimits_L19 i1 i2) (([x7.1, x7.2.1, x7.2.2.1, x7.2.2.2.1, x7.2.2.2.2.1, x7.2.2.2.2.2.1, x7.2.2.2.2.2.2.1] : List Int), ([x11.1, x11.2.1, x11.2.2.1, x11.2.2.2.1, x11.2.2.2.2.1, x11.2.2.2.2.2.1, x11.2.2.2.2.2.2.1] : List Int), 0, x7.1, x7.2.1, x7.2.2.1, x7.2.2.2.1, x7.2.2.2.2.1, x7.2.2.2.2.2.1, x7.2.2.2.2.2.2.1, x7.2.2.2.2.2.2.2.1, x11.1, x11.2.1, x11.2.2.1, x11.2.2.2.1, x11.2.2.2.2.1, x11.2.2.2.2.2.1, x11.2.2.2.2.2.2.1, x11.2.2.2.2.2.2.2.1))
 (F_wlvlaw18_ConfLimits_J17 i1 i2 x7)))
 ((F_wlvlaw18_first).bind fun b58 =>
 some (b58 && (x7.2.2.2.2.2.2.2.2 == 2))))))))
def F_wlvlaw18_ConfLimits_sig : Sig := ⟨[.v false [.d (.int .i64)], .v false [.d (.int .i64)]], [(false, [.d .bool])]⟩
def F_wlvlaw18_ConfLimits_ann : List (Nat × Ann) := [(17, ⟨18, [(13, false, [.own 3 (.int .i64)])], [(7, [.d (.int .i64), .d (.int .i64), .d (.int .i64), .d (.int .i64), .d (.int .i64), .d (.int .i64), .d (.int .i64), .own 63 (.pr .str (.pr (.pr (.sl (.int .u8)) (.sl (.int .u8))) (.pr (.int .i64) (.pr (.cpx .f64) (.sl (.pr .bool (.pr (.int .i64) (.pr .str (.pr (.pr .str (.int .i64)) (.pr (.int .i64) (.int .i64)))))))))))]), (10, [.d (.int .i64), .d (.int .i64), .d (.int .i64), .d (.int .i64), .d (.int .i64), .d (.int .i64), .d (.int .i64), .own 63 (.pr .str (.pr (.pr (.sl (.int .u8)) (.sl (.int .u8))) (.pr (.int .i64) (.pr (.cpx .f64) (.sl (.pr .bool (.pr (.int .i64) (.pr .str (.pr (.pr .str (.int .i64)) (.pr (.int .i64) (.int .i64)))))))))))])], ([4, 14] ++ List.range' 99 31), []⟩), (19, ⟨20, [(12, false, [.own 3 (.int .i64)]), (13, false, [.own 3 (.int .i64)]), (14, false, [.d (.int .i64)])], [(7, [.d (.int .i64), .d (.int .i64), .d (.int .i64), .d (.int .i64), .d (.int .i64), .d (.int .i64), .d (.int .i64), .own 63 (.pr .str (.pr (.pr (.sl (.int .u8)) (.sl (.int .u8))) (.pr (.int .i64) (.pr (.cpx .f64) (.sl (.pr .bool (.pr (.int .i64) (.pr .str (.pr (.pr .str (.int .i64)) (.pr (.int .i64) (.int .i64)))))))))))]), (10, [.d (.int .i64), .d (.int .i64), .d (.int .i64), .d (.int .i64), .d (.int .i64), .d (.int .i64), .d (.int .i64), .own 63 (.pr .str (.pr (.pr (.sl (.int .u8)) (.sl (.int .u8))) (.pr (.int .i64) (.pr (.cpx .f64) (.sl (.pr .bool (.pr (.int .i64) (.pr .str (.pr (.pr .str (.int .i64)) (.pr (.int .i64) (.int .i64)))))))))))])], ([4] ++ List.range' 99 31), []⟩)]
noncomputable def F_wlvlaw18_ConfLimits_env : Env := ⟨Tryz.prog, [(25, ⟨F_wlvlaw18_first_sig, ⟨F_wlvlaw18_first⟩⟩), (27, ⟨F_conf_Parse_sig, ⟨F_conf_Parse⟩⟩), (30, ⟨F_wlvref_Dec_sig, ⟨F_wlvref_Dec⟩⟩), (31, ⟨F_conf_Same_sig, ⟨F_conf_Same⟩⟩)], []⟩
theorem F_wlvlaw18_ConfLimits_text : pvFn F_wlvlaw18_ConfLimits_env F_wlvlaw18_ConfLimits_ann Tryz.f7 F_wlvlaw18_ConfLimits_sig = F_wlvlaw18_ConfLimits := by kernel_rfl
end Go.Proofs.YtgfmfgombmpodaaGreatDoor
namespace Go.Proofs.YtgfmfgombmpodaaGreatDoor
open Pv
theorem F_wlvlaw18_first_sound {T : Tab} (h_maxlen : has_maxlen T) (h_pow10 : tab_pow10 ∈ T) (h_errs : has_errs T) : SoundFn Tryz.prog T 25 F_wlvlaw18_first_sig ⟨F_wlvlaw18_first⟩ := by
  have h := fn_sound (T := T) (E := F_wlvlaw18_first_env) (by unfold Env.ok; exact List.forall_mem_cons.2 ⟨F_conf_Parse_sound h_maxlen h_pow10 h_errs, fun p h => by cases h⟩) (A := F_wlvlaw18_first_ann) (f := 25) (fn := Tryz.f25) (s := F_wlvlaw18_first_sig) Tryz.func25
  rw [F_wlvlaw18_first_text] at h
  exact h
theorem F_wlvref_Dec_fuel_sound {T : Tab} : ∀ k : Nat, SoundFn Tryz.prog T 30 F_wlvref_Dec_sig ⟨F_wlvref_Dec_fuel k⟩
  | 0 => by
    intro F g st xs y tmf w args _ _ happ
    have e : none = some y := (appF_bot (α := (F_wlvref_Dec_sig).out.D) ((parsT (F_wlvref_Dec_sig).ps).map LT.ty) xs).symm.trans happ
    cases e
  | k + 1 => by
    have ih := F_wlvref_Dec_fuel_sound (T := T) k
    have h := fn_sound (T := T) (E := F_wlvref_Dec_env (F_wlvref_Dec_fuel k)) (by unfold Env.ok; exact List.forall_mem_cons.2 ⟨ih, fun p h => by cases h⟩) (A := F_wlvref_Dec_ann) (f := 30) (fn := Tryz.f30) (s := F_wlvref_Dec_sig) Tryz.func30
    rw [F_wlvref_Dec_text] at h
    exact h
theorem F_wlvref_Dec_sound {T : Tab} : SoundFn Tryz.prog T 30 F_wlvref_Dec_sig ⟨F_wlvref_Dec⟩ := F_wlvref_Dec_fuel_sound 64
theorem F_wlvlaw18_ConfLimits_sound {T : Tab} (h_maxlen : has_maxlen T) (h_pow10 : tab_pow10 ∈ T) (h_errs : has_errs T) : SoundFn Tryz.prog T 7 F_wlvlaw18_ConfLimits_sig ⟨F_wlvlaw18_ConfLimits⟩ := by
  have h := fn_sound (T := T) (E := F_wlvlaw18_ConfLimits_env) (by unfold Env.ok; exact List.forall_mem_cons.2 ⟨F_wlvlaw18_first_sound h_maxlen h_pow10 h_errs, List.forall_mem_cons.2 ⟨F_conf_Parse_sound h_maxlen h_pow10 h_errs, List.forall_mem_cons.2 ⟨F_wlvref_Dec_sound, List.forall_mem_cons.2 ⟨F_conf_Same_sound, fun p h => by cases h⟩⟩⟩⟩) (A := F_wlvlaw18_ConfLimits_ann) (f := 7) (fn := Tryz.f7) (s := F_wlvlaw18_ConfLimits_sig) Tryz.func7
  rw [F_wlvlaw18_ConfLimits_text] at h
  exact h
end Go.Proofs.YtgfmfgombmpodaaGreatDoor
namespace Go.Proofs.YtgfmfgombmpodaaGreatDoor
open Pv
set_option linter.unusedVariables false
end Go.Proofs.YtgfmfgombmpodaaGreatDoor

namespace Go.Proofs.YtgfmfgombmpodaaGreatDoor
open Pv
set_option linter.unusedVariables false
def isDig (c : Int) : Bool := decide (48 ≤ c) && decide (c ≤ 57)
def valI (s : List Int) : Int := s.foldl (fun a c => a * 10 + (c - 48)) 0
theorem valI_snoc (s : List Int) (c : Int) : valI (s ++ [c]) = valI s * 10 + (c - 48) := by
  unfold valI
  rw [List.foldl_append]; rfl
theorem dig_of {c : Int} (h : isDig c = true) : 48 ≤ c ∧ c ≤ 57 := by
  simpa [isDig] using h
def dgs (n : Nat) : List Int := (Lib.decDigits n).map byteI
theorem dgs_one {n : Nat} (h : n < 10) : dgs n = [48 + (n : Int)] := by
  unfold dgs
  rw [Lib.decDigits_one h]
  show [byteI (UInt8.ofNat (48 + n))] = _
  unfold byteI
  rw [UInt8.toNat_ofNat', Nat.mod_eq_of_lt (by omega)]
  congr 1
theorem dgs_more {n : Nat} (h : ¬ n < 10) : dgs n = dgs (n / 10) ++ [48 + ((n % 10 : Nat) : Int)] := by
  unfold dgs
  rw [Lib.decDigits, dif_neg h, List.map_append]
  congr 1
  show [byteI (UInt8.ofNat (48 + n % 10))] = _
  unfold byteI
  rw [UInt8.toNat_ofNat', Nat.mod_eq_of_lt (by omega)]
  congr 1
theorem itoa_dgs (n : Nat) : itoaI (n : Int) = dgs n := by
  unfold itoaI dgs
  rw [Lib.itoa_nonneg]
theorem dgs_spec : ∀ (k n : Nat), n < k → (dgs n).all isDig = true ∧ valI (dgs n) = n ∧ dgs n ≠ [] ∧ (1 ≤ n → (dgs n).head? ≠ some 48) := fun k => by
  induction k with
  | zero => intro n h; omega
  | succ k ih =>
    intro n h
    by_cases h10 : n < 10
    · rw [dgs_one h10]
      refine ⟨by simp [isDig]; omega, by simp [valI]; omega, by simp, fun h1 => ?_⟩
      show some (48 + (n : Int)) ≠ some 48
      intro e
      injection e with e
      omega
    · obtain ⟨a, b, c, d⟩ := ih (n / 10) (by omega)
      rw [dgs_more h10]
      refine ⟨?_, ?_, by simp, fun _ => ?_⟩
      · rw [List.all_append, a]
        simp [isDig]
        omega
      · rw [valI_snoc, b]
        omega
      · cases hq : dgs (n / 10) with
        | nil => exact absurd hq c
        | cons x r =>
          rw [hq] at d
          exact d (by omega)
theorem parse_snoc (c : UInt8) : ∀ (l : List UInt8) (acc m : Nat), Lib.parseUint10 acc l = .ok m → Lib.parseUint10 acc (l ++ [c]) = Lib.parseUint10 m [c]
  | [], acc, m, h => by
    have : acc = m := by
      have h : Lib.NumEnd.ok acc = .ok m := h
      injection h
    subst this; rfl
  | x :: l, acc, m, h => by
    rw [List.cons_append]
    unfold Lib.parseUint10 at h ⊢
    split at h
    · rename_i h1
      rw [if_pos h1]
      split at h
      · cases h
      · rename_i h2
        rw [if_neg h2]
        split at h
        · cases h
        · rename_i h3
          rw [if_neg h3]
          rw [parse_snoc c l _ m h]
          rfl
    · cases h
theorem parse_dec : ∀ (k n : Nat), n < k → n < 18446744073709551616 → Lib.parseUint10 0 (Lib.decDigits n) = .ok n := fun k => by
  induction k with
  | zero => intro n h; omega
  | succ k ih =>
    intro n h hn
    have hc : (UInt8.ofNat (48 + n % 10)).toNat = 48 + n % 10 := by rw [UInt8.toNat_ofNat', Nat.mod_eq_of_lt (by omega)]
    have step : ∀ acc, acc = n / 10 → Lib.parseUint10 acc [UInt8.ofNat (48 + n % 10)] = .ok n := fun acc e => by
      unfold Lib.parseUint10
      rw [hc, if_pos (by omega), if_neg (by omega), if_neg (by omega)]
      show Lib.NumEnd.ok _ = _
      congr 1
      omega
    rw [Lib.decDigits]
    by_cases h10 : n < 10
    · rw [dif_pos h10]
      have := step 0 (by omega)
      rwa [Nat.mod_eq_of_lt h10] at this
    · rw [dif_neg h10, parse_snoc _ _ _ _ (ih (n / 10) (by omega) (by omega))]
      exact step _ rfl
theorem dec_cons (n : Nat) : ∃ c r, Lib.decDigits n = c :: r ∧ c.toNat ≠ 43 ∧ c.toNat ≠ 45 := by
  obtain ⟨a, b, c, d⟩ := dgs_spec (n + 1) n (by omega)
  cases h : Lib.decDigits n with
  | nil => exact absurd (by unfold dgs; rw [h]; rfl) c
  | cons x r =>
    refine ⟨x, r, rfl, ?_⟩
    unfold dgs at a
    rw [h, List.map_cons, List.all_cons, Bool.and_eq_true] at a
    have := dig_of a.1
    unfold byteI at this
    omega
theorem toB_dgs (n : Nat) : toB (dgs n) = Lib.decDigits n := by
  unfold toB dgs
  rw [List.map_map]
  conv => rhs; rw [← List.map_id (Lib.decDigits n)]
  apply List.map_congr_left
  intro b _
  show (((b.toNat : Nat) : Int).toNat).toUInt8 = b
  rw [Int.toNat_natCast, Nat.toUInt8_eq, UInt8.ofNat_toNat]
theorem atoi_dgs (n : Nat) (h : n < 9223372036854775808) : atoiP (dgs n) = ((n : Int), false) := by
  unfold atoiP
  rw [toB_dgs]
  obtain ⟨c, r, h1, h2, h3⟩ := dec_cons n
  have hp := parse_dec (n + 1) n (by omega) (by omega)
  have : Lib.atoiAll (Lib.decDigits n) = .ok (n : Int) := by
    rw [h1, Lib.atoiAll_plain c r h2 h3, ← h1]
    unfold Lib.parseMag
    rw [if_neg (by rw [h1]; simp), hp]
    unfold Lib.signless
    simp
    omega
  rw [this]
theorem dgs_len : ∀ (k n : Nat), n < 10 ^ (k + 1) → (dgs n).length ≤ k + 1 := fun k => by
  induction k with
  | zero => intro n h; rw [dgs_one (by omega)]; simp
  | succ k ih =>
    intro n h
    by_cases h10 : n < 10
    · rw [dgs_one h10]; simp
    · rw [dgs_more h10, List.length_append]
      have := ih (n / 10) (by
        rw [Nat.pow_succ] at h
        omega)
      simp
      omega
end Go.Proofs.YtgfmfgombmpodaaGreatDoor
namespace Go.Proofs.YtgfmfgombmpodaaGreatDoor
namespace Pv
set_option linter.unusedVariables false
section
variable {S R T : Type} {body : S → Option (R ⊕ S)} {s s' : S} {r r' : R}
theorem iter_uniq : ∀ {n m : Nat} {s : S}, iterC body n s = some r → iterC body m s = some r' → r = r'
  | 0, _, _, h, _ => by cases h
  | _ + 1, 0, _, _, h => by cases h
  | n + 1, m + 1, s, h, k => by
    unfold iterC at h k
    split at h
    · cases h
    · rename_i x hx
      rw [hx] at k
      injection h with h; injection k with k
      exact h.symm.trans k
    · rename_i x hx
      rw [hx] at k
      exact iter_uniq h k
theorem loop_of_iter {n : Nat} (h : iterC body n s = some r) : loopC body s = some r := by
  unfold loopC
  have hex : ∃ r n, iterC body n s = some r := ⟨r, n, h⟩
  rw [dif_pos hex]
  obtain ⟨m, hm⟩ := hex.choose_spec
  rw [iter_uniq hm h]
theorem iter_of_loop' (h : loopC body s = some r) : ∃ n, iterC body n s = some r := by
  unfold loopC at h
  split at h
  · rename_i hex
    injection h with h
    obtain ⟨n, hn⟩ := hex.choose_spec
    exact ⟨n, by rw [hn, h]⟩
  · cases h
theorem loop_inl (h : body s = some (.inl r)) : loopC body s = some r := loop_of_iter (n := 1) (by unfold iterC; rw [h])
theorem loop_inr (h : body s = some (.inr s')) (k : loopC body s' = some r) : loopC body s = some r := by
  obtain ⟨n, hn⟩ := iter_of_loop' k
  exact loop_of_iter (n := n + 1) (by unfold iterC; rw [h]; exact hn)
theorem wrap_in {x : Int} (h0 : -9223372036854775808 ≤ x) (h1 : x ≤ 9223372036854775807) : IntKind.i64.wrap x = x := by
  show (if (true && decide (x % 18446744073709551616 ≥ 9223372036854775808)) = true then x % 18446744073709551616 - 18446744073709551616 else x % 18446744073709551616) = x
  simp only [Bool.true_and, decide_eq_true_eq]
  split <;> omega
end
end Pv
end Go.Proofs.YtgfmfgombmpodaaGreatDoor
namespace Go.Proofs.YtgfmfgombmpodaaGreatDoor
open Pv
set_option linter.unusedVariables false
theorem u8_in {x : Int} (h0 : 0 ≤ x) (h1 : x ≤ 255) : IntKind.u8.wrap x = x := by
  show (if (false && decide (x % 256 ≥ 128)) = true then x % 256 - 256 else x % 256) = x
  simp
  omega
structure AtG (b : List Int) (g : Int) : Prop where
  len : b.length ≤ 14
  even : b.length % 2 = 0
  lo : -1 ≤ g
  hi : g ≤ b.length
def Stop (rest : List Int) : Prop := rest = [] ∨ ∃ r, rest = 58 :: r
theorem maxI0 (n : Int) : maxI n 0 = (n.toNat : Int) := by
  unfold maxI
  by_cases h : (0 : Int) > n
  · rw [decide_eq_true h, cond_true]; omega
  · rw [decide_eq_false h, cond_false]; omega
theorem Dec_fuel_eq : ∀ (k : Nat) (n : Int), n < 10 ^ (k + 1) → n ≤ 9223372036854775807 → F_wlvref_Dec_fuel (k + 1) n = some (dgs n.toNat) := fun k => by
  induction k with
  | zero =>
    intro n h h2
    show F_wlvref_Dec_step (F_wlvref_Dec_fuel 0) n = _
    unfold F_wlvref_Dec_step
    have h : n < 10 := h
    rw [decide_eq_true h, cond_true, dgs_one (by omega)]
    rw [maxI0, wrap_in (by omega) (by omega), u8_in (by omega) (by omega)]
  | succ k ih =>
    intro n h h2
    show F_wlvref_Dec_step (F_wlvref_Dec_fuel (k + 1)) n = _
    unfold F_wlvref_Dec_step
    by_cases h10 : n < 10
    · rw [decide_eq_true h10, cond_true, dgs_one (by omega)]
      rw [maxI0, wrap_in (by omega) (by omega), u8_in (by omega) (by omega)]
    · have e1 : Int.tdiv n 10 = n / 10 := Int.tdiv_eq_ediv_of_nonneg (by omega)
      have e2 : Int.tmod n 10 = n % 10 := Int.tmod_eq_emod_of_nonneg (by omega)
      rw [decide_eq_false h10, cond_false, e1, e2, wrap_in (x := n / 10) (by omega) (by omega)]
      rw [ih (n / 10) (by rw [Int.pow_succ] at h; omega) (by omega), Option.bind_some]
      have hl := dgs_len 18 (n / 10).toNat (by
        have : (10 : Nat) ^ (18 + 1) = 10000000000000000000 := by decide
        omega)
      have hb : ∀ a : Int, Nat.ble ((dgs (n / 10).toNat).length + ([a] : List Int).length) maxLen = true := fun a => Nat.ble_eq_true_of_le (by
        have : maxLen = 9223372036854775807 := rfl
        simp
        omega)
      unfold chk
      rw [hb, cond_true, wrap_in (by omega) (by omega), u8_in (by omega) (by omega), dgs_more (n := n.toNat) (by omega)]
      rw [show (n / 10).toNat = n.toNat / 10 by omega, show n % 10 = ((n.toNat % 10 : Nat) : Int) by omega]
theorem Dec_eq (n : Int) (h2 : n ≤ 9223372036854775807) : F_wlvref_Dec n = some (dgs n.toNat) :=
  Dec_fuel_eq 63 n (by have : (10 : Int) ^ (63 + 1) = 10000000000000000000000000000000000000000000000000000000000000000 := by decide
                       omega) h2
def keepB (x : Int) (k : Nat) : Int := x / 2 ^ (8 - k) * 2 ^ (8 - k)
def nbits (b : Int) (i : Nat) : Nat := min (b - 8 * i).toNat 8
def keptL (b : Int) : Nat → List Int → List Int
  | _, [] => []
  | i, x :: r => keepB x (nbits b i) :: keptL b (i + 1) r
def lw (c : Int) : Int := if 65 ≤ c ∧ c ≤ 90 then c + 32 else c
def okHc (c : Int) : Bool := (decide (97 ≤ c) && decide (c ≤ 122)) || (decide (48 ≤ c) && decide (c ≤ 57)) || c == 45 || c == 95
structure Pre (w : List Int) (out : List Int) : Prop where
  len : w.length ≤ 63
  head : w.head? ≠ some 45
  ok : w.all okHc = true
  last : w ≠ [] → out.getLast? = w.getLast?
theorem split_w (w r : List Int) (c : Int) (h : ∀ x ∈ w, x ≠ c) : splitI (w ++ c :: r) c = w :: splitI r c := by
  induction w with
  | nil =>
    show cond (c == c) _ _ = _
    rw [beq_self_eq_true]; rfl
  | cons x w ih =>
    show cond (x == c) _ (match splitI (w ++ c :: r) c with | [] => [[x]] | w :: r => (x :: w) :: r) = _
    rw [beq_eq_false_iff_ne.2 (h x (by simp)), cond_false, ih fun y hy => h y (by simp [hy])]
theorem split_e (w : List Int) (c : Int) (h : ∀ x ∈ w, x ≠ c) : splitI w c = [w] := by
  induction w with
  | nil => rfl
  | cons x w ih =>
    show cond (x == c) _ (match splitI w c with | [] => [[x]] | w :: r => (x :: w) :: r) = _
    rw [beq_eq_false_iff_ne.2 (h x (by simp)), cond_false, ih fun y hy => h y (by simp [hy])]
theorem dig_ge {n : Nat} {c : Int} (h : c ∈ dgs n) : 48 ≤ c ∧ c ≤ 57 := dig_of (List.all_eq_true.1 (dgs_spec (n + 1) n (by omega)).1 c h)
theorem first18 : F_wlvlaw18_first = some true := by
  unfold F_wlvlaw18_first
  rw [show F_conf_Parse [] = some (16, 100, 65535, 1000, 1000000, 1000, 16384, [], 0) from rfl]
  rfl
theorem itoa_neg (n : Nat) (h : 1 ≤ n) : itoaI (-(n : Int)) = 45 :: dgs n := by
  unfold itoaI dgs
  rw [Lib.itoa_neg n h]; rfl
theorem itoa_ln (n : Int) (h1 : -9223372036854775808 ≤ n) (h2 : n ≤ 9223372036854775807) : (itoaI n).length ≤ 21 := by
  unfold itoaI
  rw [List.length_map]
  exact Lib.itoa_length_le n h1 h2
theorem toB_neg (n : Nat) : toB (45 :: dgs n) = 45 :: Lib.decDigits n := by
  show (45 : Int).toNat.toUInt8 :: toB (dgs n) = _
  rw [toB_dgs]; rfl
theorem atoi_neg (n : Nat) (h1 : 1 ≤ n) (h : n ≤ 9223372036854775808) : atoiP (45 :: dgs n) = (-(n : Int), false) := by
  unfold atoiP
  rw [toB_neg]
  obtain ⟨c, r, e1, e2, e3⟩ := dec_cons n
  have hp := parse_dec (n + 1) n (by omega) (by omega)
  have : Lib.atoiAll (45 :: Lib.decDigits n) = .ok (-(n : Int)) := by
    unfold Lib.atoiAll
    dsimp only
    rw [if_pos (.inr (by decide))]
    unfold Lib.parseMag
    rw [if_neg (by rw [e1]; simp), hp]
    dsimp only
    rw [if_neg (by intro q; exact q.1 (by decide)), if_neg (by omega), if_pos (by decide)]
  rw [this]
theorem atoi_itoa (z : Int) (h1 : -9223372036854775808 ≤ z) (h2 : z ≤ 9223372036854775807) : atoiP (itoaI z) = (z, false) := by
  rcases Int.lt_or_le z 0 with h | h
  · obtain ⟨n, rfl⟩ : ∃ n : Nat, z = -(n : Int) := ⟨z.natAbs, by omega⟩
    rw [itoa_neg n (by omega)]
    exact atoi_neg n (by omega) (by omega)
  · obtain ⟨n, rfl⟩ : ∃ n : Nat, z = (n : Int) := ⟨z.toNat, by omega⟩
    rw [itoa_dgs]
    exact atoi_dgs n (by omega)
theorem number_itoa (z lo hi : Int) (h1 : -9223372036854775808 ≤ z) (h2 : z ≤ 9223372036854775807) : F_conf_number (itoaI z) lo hi = some (z, decide (z ≥ lo) && decide (z ≤ hi)) := by
  have hl := itoa_ln z h1 h2
  unfold F_conf_number
  rw [show F_strconv_Atoi (itoaI z) = some (z, false) by
    unfold F_strconv_Atoi
    rw [Nat.ble_eq_true_of_le (by omega), atoi_itoa z h1 h2]; rfl, Option.bind_some]
  rw [show notB (z, false).2 = true from rfl, cond_true]
  unfold F_strconv_Itoa
  rw [Option.bind_some, beq_self_eq_true, Bool.true_and]
theorem itoa_sign (z : Int) (c : Int) (h : c ∈ itoaI z) : (48 ≤ c ∧ c ≤ 57) ∨ c = 45 := by
  rcases Int.lt_or_le z 0 with hz | hz
  · obtain ⟨n, rfl⟩ : ∃ n : Nat, z = -(n : Int) := ⟨z.natAbs, by omega⟩
    rw [itoa_neg n (by omega)] at h
    rcases List.mem_cons.1 h with rfl | h
    · exact .inr rfl
    · exact .inl (dig_ge h)
  · obtain ⟨n, rfl⟩ : ∃ n : Nat, z = (n : Int) := ⟨z.toNat, by omega⟩
    rw [itoa_dgs] at h
    exact .inl (dig_ge h)
def hx2 (x : Int) : List Int := (hex2 x).map byteI
theorem itoa_n32 (z : Int) : ∀ x ∈ itoaI z, x ≠ 32 := fun x hx => by
  have := itoa_sign z x hx
  omega
theorem skip_c {s : List Int} {c : Int} (h : s.head? = some c) (hc : c ≠ 35) : skipL s = false := by
  cases s with
  | nil => cases h
  | cons a b =>
    injection h with h
    subst h
    unfold skipL
    show (false || (a == 35)) = false
    rw [beq_eq_false_iff_ne.2 hc]; rfl
structure UserOk (u : UserD) : Prop where
  name : F_conf_named u.1 = some true
  nosp : ∀ x ∈ u.1, x ≠ 32
  short : u.1.length ≤ 64
  salt : ∀ x ∈ u.2.1.1, 0 ≤ x ∧ x < 256
  saltl : 1 ≤ u.2.1.1.length ∧ u.2.1.1.length ≤ 32
  dig : ∀ x ∈ u.2.1.2, 0 ≤ x ∧ x < 256
  digl : u.2.1.2.length = 32
  many : 1 ≤ u.2.2.1 ∧ u.2.2.1 ≤ 1000
theorem number_nn (z lo hi : Int) (h0 : 0 ≤ z) (h2 : z ≤ 9223372036854775807) : F_conf_number (dgs z.toNat) lo hi = some (z, decide (z ≥ lo) && decide (z ≤ hi)) := by
  have h := number_itoa z lo hi (by omega) h2
  obtain ⟨n, rfl⟩ := Int.eq_ofNat_of_zero_le h0
  exact h
theorem dgs_n32 {z : Int} (h0 : 0 ≤ z) : ∀ x ∈ dgs z.toNat, x ≠ 32 := by
  obtain ⟨n, rfl⟩ := Int.eq_ofNat_of_zero_le h0
  exact itoa_n32 (n : Int)
theorem lim_lineG {x : RSt} {a b : List Int} {k : Nat} {n : Int} {q : Bool} (ha : ∀ c ∈ a, c ≠ 32) (hb : ∀ c ∈ b, c ≠ 32) (hal : a.length ≤ 100) (hbl : b.length ≤ 100) (hx : x.us = []) (ht : x.told.contains a = false) (hk : limAt a = some k) (hn : F_conf_number b (limLo k) (limHi k) = some (n, q)) : lineP x (lbL ++ 32 :: (a ++ 32 :: b)) = some ({ x.setLim k n with told := x.told ++ [a] }, cond q 0 2) := by
  unfold lineP
  rw [Nat.ble_eq_true_of_le (show (lbL ++ 32 :: (a ++ 32 :: b)).length ≤ 4000000000 by simp [lbL]; omega), hx, split_w _ _ _ (by decide), split_w _ _ _ ha, split_e _ _ hb]
  show ((limitsP x [a, b]).map fun p => (p.1, cond p.2 (0 : Int) 2)) = _
  show ((cond (x.told.contains a) (some (x, false)) (match limAt a with
    | none => some (x, false)
    | some k => (F_conf_number b (limLo k) (limHi k)).bind fun p => some ({ x.setLim k p.1 with told := x.told ++ [a] }, p.2))).map fun p => (p.1, cond p.2 (0 : Int) 2)) = _
  rw [ht, cond_false, hk]
  dsimp only
  rw [hn]
  rfl
theorem one_lim {a : List Int} {k : Nat} {n : Int} (h0 : 0 ≤ n) (h1 : n ≤ 9223372036854775807) (ha : ∀ c ∈ a, c ≠ 32) (hal : a.length ≤ 100) (hk : limAt a = some k) (hsu : (rst0.setLim k n).us = []) : F_conf_Parse [(((([108, 105, 109, 105, 116, 32] : List Int) ++ a) ++ ([32] : List Int)) ++ dgs n.toNat)] = some (cond (decide (n ≥ limLo k) && decide (n ≤ limHi k)) ((rst0.setLim k n).c0, (rst0.setLim k n).c1, (rst0.setLim k n).c2, (rst0.setLim k n).c3, (rst0.setLim k n).c4, (rst0.setLim k n).c5, (rst0.setLim k n).c6, [], 0) (0, 0, 0, 0, 0, 0, 0, [], 2)) := by
  have e : ((([108, 105, 109, 105, 116, 32] : List Int) ++ a) ++ ([32] : List Int)) ++ dgs n.toNat = lbL ++ 32 :: (a ++ 32 :: dgs n.toNat) := by simp [lbL]
  have hl : (dgs n.toNat).length ≤ 100 := by
    have := dgs_len 20 n.toNat (by omega)
    omega
  rw [e]
  unfold F_conf_Parse
  rw [show Nat.ble [lbL ++ 32 :: (a ++ 32 :: dgs n.toNat)].length 1000000 = true from rfl, cond_true]
  unfold parseL
  rw [show skipL (lbL ++ 32 :: (a ++ 32 :: dgs n.toNat)) = false from skip_c (c := 108) rfl (by decide), cond_false, lim_lineG (x := rst0) ha (dgs_n32 h0) hal hl rfl rfl hk (number_nn n _ _ h0 h1), Option.bind_some]
  cases decide (n ≥ limLo k) && decide (n ≤ limHi k) with
  | true =>
    show some ((rst0.setLim k n).c0, (rst0.setLim k n).c1, (rst0.setLim k n).c2, (rst0.setLim k n).c3, (rst0.setLim k n).c4, (rst0.setLim k n).c5, (rst0.setLim k n).c6, (rst0.setLim k n).us, (0 : Int)) = _
    rw [hsu]
    rfl
  | false => rfl
theorem lim_loop (w : Nat) (n : Int) (X Y : List Int) (r : Int × Int × Int × Int × Int × Int × Int × List UserD × Int × Int × Int × Int × Int × Int × Int × List UserD) (hX : X.length = 7) (hY : Y.length = 7) (hw : X[w]? = some n) (he : ∀ i, i ≠ w → X[i]? = Y[i]?) : ∀ m j : Nat, j + m = 7 → loopC (F_wlvlaw18_ConfLimits_L19 (w : Int) n) (X, Y, (j : Int), r) = some (.inr (Y, r))
  | 0, j, h => by
    refine loop_inl ?_
    unfold F_wlvlaw18_ConfLimits_L19
    dsimp only
    rw [decide_eq_false (by omega), cond_false]
  | m + 1, j, h => by
    refine loop_inr ?_ (lim_loop w n X Y r hX hY hw he m (j + 1) (by omega))
    have hw1 : IntKind.i64.wrap ((j : Int) + 1) = ((j + 1 : Nat) : Int) := by
      rw [wrap_in (by omega) (by omega)]; rfl
    obtain ⟨x, hx⟩ : ∃ x, X[j]? = some x := ⟨_, List.getElem?_eq_getElem (by omega)⟩
    obtain ⟨y, hy⟩ : ∃ y, Y[j]? = some y := ⟨_, List.getElem?_eq_getElem (by omega)⟩
    have gx : getI X (j : Int) = some x := by
      unfold getI; rw [decide_eq_true (by omega), cond_true, Int.toNat_natCast, hx]
    have gy : getI Y (j : Int) = some y := by
      unfold getI; rw [decide_eq_true (by omega), cond_true, Int.toNat_natCast, hy]
    unfold F_wlvlaw18_ConfLimits_L19
    dsimp only
    rw [decide_eq_true (show ((j : Int)) < 7 by omega), cond_true, gx, gy, hw1]
    by_cases hjw : j = w
    · subst hjw
      rw [hw] at hx
      injection hx with hx
      subst hx
      simp
    · have hxy : x = y := by
        have := he j hjw
        rw [hx, hy] at this
        injection this
      have hne : ((j : Int) == (w : Int)) = false := by simp; omega
      have hne2 : ((j : Int) != (w : Int)) = true := by simp; omega
      subst hxy
      simp [hne, hne2]
def nmK (k : Nat) : List Int := bytesL (limW k)
theorem nm_get (k : Nat) (h : k < 7) : getI ([([99, 111, 110, 110, 115] : List Int), ([115, 116, 114, 101, 97, 109, 115] : List Int), ([98, 117, 102, 102, 101, 114] : List Int), ([108, 111, 103] : List Int), ([105, 100, 108, 101] : List Int), ([100, 105, 97, 108] : List Int), ([108, 105, 115, 116] : List Int)] : List (List Int)) (k : Int) = some (nmK k) := by
  match k, h with
  | 0, _ | 1, _ | 2, _ | 3, _ | 4, _ | 5, _ | 6, _ => (show _ = _; kernel_rfl)
theorem hi_get (k : Nat) (h : k < 7) : getI ([16, 100, 65535, 100000, 1099511627776, 1099511627776, 16384] : List Int) (k : Int) = some (limHi k) := by
  match k, h with
  | 0, _ | 1, _ | 2, _ | 3, _ | 4, _ | 5, _ | 6, _ => rfl
theorem def_get (k : Nat) (h : k < 7) : getI ([16, 100, 65535, 1000, 1000000, 1000, 16384] : List Int) (k : Int) = some (rst0.lim k) := by
  match k, h with
  | 0, _ | 1, _ | 2, _ | 3, _ | 4, _ | 5, _ | 6, _ => rfl
theorem nm_len (k : Nat) (h : k < 7) : (nmK k).length ≤ 100 := by
  match k, h with
  | 0, _ | 1, _ | 2, _ | 3, _ | 4, _ | 5, _ | 6, _ => decide +kernel
theorem nm_n32 (k : Nat) (h : k < 7) : ∀ c ∈ nmK k, c ≠ 32 := by
  match k, h with
  | 0, _ | 1, _ | 2, _ | 3, _ | 4, _ | 5, _ | 6, _ => decide +kernel
theorem nm_at (k : Nat) (h : k < 7) : limAt (nmK k) = some k := by
  match k, h with
  | 0, _ | 1, _ | 2, _ | 3, _ | 4, _ | 5, _ | 6, _ => (show _ = _; kernel_rfl)
theorem set_us (k : Nat) (n : Int) : (rst0.setLim k n).us = [] := by
  match k with
  | 0 | 1 | 2 | 3 | 4 | 5 => rfl
  | k + 6 => rfl
theorem set_at (k : Nat) (h : k < 7) (n : Int) : ([(rst0.setLim k n).c0, (rst0.setLim k n).c1, (rst0.setLim k n).c2, (rst0.setLim k n).c3, (rst0.setLim k n).c4, (rst0.setLim k n).c5, (rst0.setLim k n).c6] : List Int)[k]? = some n := by
  match k, h with
  | 0, _ | 1, _ | 2, _ | 3, _ | 4, _ | 5, _ | 6, _ => rfl
theorem set_ne (k : Nat) (h : k < 7) (n : Int) (i : Nat) (hi : i ≠ k) : ([(rst0.setLim k n).c0, (rst0.setLim k n).c1, (rst0.setLim k n).c2, (rst0.setLim k n).c3, (rst0.setLim k n).c4, (rst0.setLim k n).c5, (rst0.setLim k n).c6] : List Int)[i]? = ([16, 100, 65535, 1000, 1000000, 1000, 16384] : List Int)[i]? := by
  match k, h with
  | 0, _ | 1, _ | 2, _ | 3, _ | 4, _ | 5, _ | 6, _ =>
    match i, hi with
    | 0, hi | 1, hi | 2, hi | 3, hi | 4, hi | 5, hi | 6, hi => first | rfl | exact absurd rfl hi
    | i + 7, _ => rfl
theorem parse_0 : F_conf_Parse ([] : List (List Int)) = some (16, 100, 65535, 1000, 1000000, 1000, 16384, [], 0) := rfl
theorem same_lim (k : Nat) (h : k < 7) (n : Int) : F_conf_Same (rst0.setLim k n).c0 (rst0.setLim k n).c1 (rst0.setLim k n).c2 (rst0.setLim k n).c3 (rst0.setLim k n).c4 (rst0.setLim k n).c5 (rst0.setLim k n).c6 [] 16 100 65535 1000 1000000 1000 16384 [] = some (n == rst0.lim k) := by
  unfold F_conf_Same sameC
  rw [show Nat.ble ([] : List UserD).length 1000000 = true from rfl, cond_true]
  match k, h with
  | 0, _ | 1, _ | 2, _ | 3, _ | 4, _ | 5, _ | 6, _ =>
    simp only [List.range, List.range.loop, List.all_cons, List.all_nil, RSt.setLim, rst0, seven, RSt.lim, BEq.rfl, Bool.true_and, Bool.and_true]
    generalize (n == _) = b
    cases b <;> rfl
theorem ConfLimits_true (i n : Int) (hi : (Lit.int .i64 i).wf = true) (hn : (Lit.int .i64 n).wf = true) : F_wlvlaw18_ConfLimits i n = some true := by
  replace hi := wf_i64 hi
  replace hn := wf_i64 hn
  unfold F_wlvlaw18_ConfLimits
  rw [first18]
  simp only [Option.bind_some, Bool.not_true, cond_false]
  cases hout : (((decide (i < 0)) || (decide (i > 6))) || (decide (n < 0))) with
  | true => rfl
  | false =>
  rw [cond_false]
  simp only [Bool.or_eq_false_iff, decide_eq_false_iff_not] at hout
  obtain ⟨⟨h1, h2⟩, h3⟩ := hout
  have h0 : 0 ≤ n := by omega
  obtain ⟨k, rfl⟩ := Int.eq_ofNat_of_zero_le (show 0 ≤ i by omega)
  have hk : k < 7 := by omega
  have e1 : getI ([([99, 111, 110, 110, 115] : List Int), ([115, 116, 114, 101, 97, 109, 115] : List Int), ([98, 117, 102, 102, 101, 114] : List Int), ([108, 111, 103] : List Int), ([105, 100, 108, 101] : List Int), ([100, 105, 97, 108] : List Int), ([108, 105, 115, 116] : List Int)] : List (List Int)) (k : Int) = some (nmK k) := nm_get k hk
  have e2 : getI ([16, 100, 65535, 100000, 1099511627776, 1099511627776, 16384] : List Int) (k : Int) = some (limHi k) := hi_get k hk
  have e3 : (nmK k).length ≤ 100 := nm_len k hk
  have e4 : (dgs n.toNat).length ≤ 100 := by
    have := dgs_len 20 n.toNat (by omega)
    omega
  have hm : maxLen = 9223372036854775807 := rfl
  have ck : ∀ {α : Type} {a : Nat} (x : Option α), a ≤ 1000 → chk (Nat.ble a maxLen) x = x := fun x h => by
    unfold chk
    rw [Nat.ble_eq_true_of_le (by omega)]; rfl
  rw [e1, Option.bind_some, ck _ (by show 6 + _ ≤ _; omega), ck _ (by simp; omega), Dec_eq n hn.2, Option.bind_some, ck _ (by simp; omega), one_lim h0 hn.2 (nm_n32 k hk) e3 (nm_at k hk) (set_us k n), Option.bind_some, e2, Option.bind_some]
  have hlo : (!((decide (n > 0)) || ((k : Int) == 3))) = !(decide (n ≥ limLo k)) := by
    rcases (by omega : k = 3 ∨ k ≠ 3) with rfl | h
    · simp [limLo, h0]
    · have : limLo k = 1 := by
        match k, h with
        | 0, _ => rfl
        | 1, _ => rfl
        | 2, _ => rfl
        | k + 4, _ => rfl
      rw [this, show (((k : Int)) == 3) = false from by simp; omega, Bool.or_false]
      congr 1
  rw [hlo]
  cases hh : decide (n ≤ limHi k) with
  | false => rw [Bool.and_false]; rfl
  | true =>
  cases hl : decide (n ≥ limLo k) with
  | false => rfl
  | true =>
  rw [cond_true, Bool.not_true, cond_false, Bool.and_true, cond_true, parse_0, Option.bind_some]
  dsimp only
  refine (congrArg (fun x => joinC x _) (lim_loop k n _ _ _ rfl rfl (set_at k hk n) (set_ne k hk n) 7 0 rfl)).trans ?_
  unfold joinC
  dsimp only
  unfold F_wlvlaw18_ConfLimits_J17
  dsimp only
  rw [first18, Option.bind_some, show (true && ((0 : Int) == 0)) = true from rfl, cond_true, same_lim k hk n, Option.bind_some, def_get k hk, Option.bind_some]
  cases n == rst0.lim k <;> rfl
end Go.Proofs.YtgfmfgombmpodaaGreatDoor
