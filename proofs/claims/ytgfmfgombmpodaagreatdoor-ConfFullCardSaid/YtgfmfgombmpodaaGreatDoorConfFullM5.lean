/- Texts of this claim, one behind the other. -/
import Derived.Test.YtgfmfgombmpodaaGreatDoorConfFullM4
import Derived.Deep.RegionLaw
import Derived.Deep.RegionWith
import Derived.BigRegion
import Derived.LoopTactic
import Derived.Handy
import Derived.RegionTactic
import Derived.Carry
import Derived.Lib.Builder
import Derived.Laws.ResultCell
import Derived.Lib.IndexBytes
import Derived.Test.YtgfmfgombmpodaaGreatDoorProg
import Derived.KernelRfl
import Derived.Laws.Bits
import Derived.Lib.ItoaMem
import Derived.Laws.BitsLemmas
/- conf's reader: a rule's line, by hand. -/
namespace Go.Proofs.YtgfmfgombmpodaaGreatDoor
open Go.RowKit Pv
set_option linter.unusedVariables false
abbrev PatD := Bool × Int × List Int × List Int × Int × Int × Int × Bool
def ruleG (x : RSt) (a : List Int) (allow : Bool) (p : PatD) (sp : Int × Int × Bool) : Option (RSt × Int) :=
  cond (p.2.2.2.2.2.2.2 && sp.2.2) (match x.us[(usAt x.us a).toNat]? with
    | none => none
    | some u => cond (Nat.beq u.2.2.2.2.length 64) (some (x, 7)) (cond (Nat.ble u.2.2.2.2.length 64) (some ({ x with us := x.us.set (usAt x.us a).toNat (u.1, u.2.1, u.2.2.1, u.2.2.2.1, u.2.2.2.2 ++ [(allow, p.2.1, p.2.2.1, (p.2.2.2.1, p.2.2.2.2.1), sp.1, sp.2.1)]) }, 0)) none)) (some (x, 2))
noncomputable def ruleP (x : RSt) (allow : Bool) : List (List Int) → Option (RSt × Int)
  | [a, b, c] => cond (decide (usAt x.us a < 0)) (some (x, 2)) ((F_conf_pattern b).bind fun p => (F_conf_span c).bind fun sp => ruleG x a allow p sp)
  | _ => some (x, 2)
theorem usAt_in : ∀ (us : List UserD) (s : List Int), -1 ≤ usAt us s ∧ usAt us s < us.length
  | [], s => ⟨Int.le_refl _, by show (-1 : Int) < 0; decide⟩
  | u :: us, s => by
    have ih := usAt_in us s
    rw [List.length_cons]
    show -1 ≤ cond (u.1 == s) 0 (cond (decide (usAt us s = -1)) (-1) (usAt us s + 1)) ∧ cond (u.1 == s) 0 (cond (decide (usAt us s = -1)) (-1) (usAt us s + 1)) < _
    cases u.1 == s
    · cases hq : decide (usAt us s = -1)
      · show -1 ≤ usAt us s + 1 ∧ usAt us s + 1 < _
        omega
      · show -1 ≤ (-1 : Int) ∧ (-1 : Int) < _
        omega
    · show -1 ≤ (0 : Int) ∧ (0 : Int) < _
      omega
theorem rl_add_pos (a : Addr) {j : Nat} (hj : j ≠ 0) : a.add j = ⟨a.block, a.off + j, none⟩ := by
  unfold Addr.add
  rw [if_neg hj]
theorem rl_add_0 (a : Addr) : a.add 0 = a := by unfold Addr.add; simp
theorem rl_cell {w w' : World} {a : Addr} {u : Value} (h : w.cell? a = some u) (hb : Below w.heap.size w w') : w'.cell? a = some u := (hb.cell (cell_lt h)).trans h
theorem rule_cells {w : World} {C : Com} {r : RuleD} {cs : List Value} (h : RepD w C ruleT r cs) : ∃ (s3 s4 : ByteArray), cs = [.bool r.1, .int .i64 r.2.1, .string s3, .string s4, .int .i64 r.2.2.2.1.2, .int .i64 r.2.2.2.2.1, .int .i64 r.2.2.2.2.2] ∧ bytesL s3 = r.2.2.1 ∧ bytesL s4 = r.2.2.2.1.1 ∧ s3.size ≤ maxLen ∧ s4.size ≤ maxLen ∧ (Lit.int .i64 r.2.1).wf = true ∧ (Lit.int .i64 r.2.2.2.1.2).wf = true := by
  obtain ⟨d1, e1, rfl, h1, d2, e2, rfl, ⟨rfl, h2⟩, d3, e3, rfl, ⟨s3, rfl, h3, h3'⟩, d4, e4, rfl, ⟨d5, e5, rfl, ⟨s4, rfl, h4, h4'⟩, rfl, h5⟩, d6, e6, rfl, ⟨rfl, _⟩, rfl, _⟩ := h
  have h1 : d1 = [.bool r.1] := h1
  subst h1
  exact ⟨s3, s4, rfl, h3, h4, h3', h4', h2, h5⟩
theorem rule_rep {w : World} {C : Com} {a : Bool} {k n f t : Int} {s3 s4 : ByteArray} (h3 : s3.size ≤ maxLen) (h4 : s4.size ≤ maxLen) (hk : (Lit.int .i64 k).wf = true) (hn : (Lit.int .i64 n).wf = true) (hf : (Lit.int .i64 f).wf = true) (ht : (Lit.int .i64 t).wf = true) :
    RepD w C ruleT ((a, k, bytesL s3, (bytesL s4, n), f, t) : RuleD) [.bool a, .int .i64 k, .string s3, .string s4, .int .i64 n, .int .i64 f, .int .i64 t] :=
  ⟨[_], _, rfl, rfl, [_], _, rfl, ⟨rfl, hk⟩, [_], _, rfl, ⟨s3, rfl, rfl, h3⟩, [_, _], _, rfl, ⟨[_], [_], rfl, ⟨s4, rfl, rfl, h4⟩, rfl, hn⟩, [_], [_], rfl, ⟨rfl, hf⟩, rfl, ht⟩
theorem cells7 {w : World} {b : Nat} {v0 v1 v2 v3 v4 v5 v6 : Value} {T : TypeId} (h : w.heap[b]? = some (.cells #[v0, v1, v2, v3, v4, v5, v6] T (0, 0))) : w.cell? ⟨b, 0, none⟩ = some v0 ∧ w.cell? ⟨b, 1, none⟩ = some v1 ∧ w.cell? ⟨b, 2, none⟩ = some v2 ∧ w.cell? ⟨b, 3, none⟩ = some v3 ∧ w.cell? ⟨b, 4, none⟩ = some v4 ∧ w.cell? ⟨b, 5, none⟩ = some v5 ∧ w.cell? ⟨b, 6, none⟩ = some v6 ∧ ∀ o, w.frozen? ⟨b, o, none⟩ = false := by
  refine ⟨?_, ?_, ?_, ?_, ?_, ?_, ?_, fun o => ?_⟩ <;> first | (rw [cell_at h]; rfl) | simp [World.frozen?, h]
theorem rule_stored {w5 ws : World} {L : Nat} {v0 v1 v2 v3 v4 v5 v6 a f t : Value} {T : TypeId} (h : w5.heap[L]? = some (.cells #[v0, v1, v2, v3, v4, v5, v6] T (0, 0))) (hws : ((w5.setCell ⟨L, 0, none⟩ a).setCell ⟨L, 5, none⟩ f).setCell ⟨L, 6, none⟩ t = ws) :
    ws.heap[L]? = some (.cells #[a, v1, v2, v3, v4, f, t] T (0, 0)) ∧ (∀ k, k ≠ L → ws.heap[k]? = w5.heap[k]?) ∧ ws.heap.size = w5.heap.size ∧ ws.os = w5.os ∧ ws.tape = w5.tape ∧ ws.output = w5.output := by
  subst hws
  refine ⟨?_, fun k hk => ?_, by simp [World.setCell], rfl, rfl, rfl⟩
  · rw [setCell_heap, if_pos rfl, setCell_heap, if_pos rfl, setCell_heap, if_pos rfl, h]
    rfl
  · rw [setCell_heap, if_neg hk, setCell_heap, if_neg hk, setCell_heap, if_neg hk]
theorem rule_end {lo : Nat} {w W0 wz w' : World} {R M U cap m i k : Nat} {role : Nat → Role} {x : RSt} {u : UserD} {r : RuleD} {news rs xs : List Value} {nm : ByteArray} {vs vd vr' : Value} {ra : Option Addr} {rc : Nat} (hm : x.us.length = m) (hlo : lo ≤ w.heap.size) (h : RdAt lo w R M (.slice (some ⟨U, 0, none⟩) m cap) role x)
    (hU : w.ownsRow lo 63 6 (.slice (some ⟨U, 0, none⟩) x.us.length cap) x.us.length xs ∧ (∀ i u, x.us[i]? = some u → UserAt lo w role i u ((xs.drop (i * 6)).take 6)) ∧ role U = .usr) (hu : x.us[i]? = some u) (hcs : (xs.drop (i * 6)).take 6 = [.string nm, vs, vd, .int .i64 u.2.2.1, .complex .f64 u.2.2.2.1.1 u.2.2.2.1.2, .slice ra u.2.2.2.2.length rc]) (hnm : bytesL nm = u.1) (hnmz : nm.size ≤ maxLen) (hwf : (Lit.int .i64 u.2.2.1).wf = true)
    (hvs : RowAt lo w role .flat 5 (.int .u8) u.2.1.1 vs) (hvd : RowAt lo w role .flat 5 (.int .u8) u.2.1.2 vd) (r1 : w.ownsRow lo 68 ruleT.size (.slice ra u.2.2.2.2.length rc) u.2.2.2.2.length rs) (r2 : ∀ b, (Value.slice ra u.2.2.2.2.length rc).ownBlock = some b → role b = .row i) (r3 : ∀ (j : Nat) (y : ruleT.D), (show List ruleT.D from u.2.2.2.2)[j]? = some y → RepD w noC ruleT y ((rs.drop (j * ruleT.size)).take ruleT.size)) (hk : u.2.2.2.2.length = k)
    (hn7 : news.length = 7) (hnew : RepD w noC ruleT r news) (hg : W0.grownBy wz (Value.slice ra k rc).ownBlock) (hown : wz.ownsRow lo 68 7 vr' (k + 1) (rs ++ news)) (hat : vr'.ownBlock = (Value.slice ra k rc).ownBlock ∨ vr'.ownBlock = some W0.heap.size)
    (hW : ∀ b, b < w.heap.size → W0.heap[b]? = w.heap[b]?) (hWs : w.heap.size ≤ W0.heap.size) (hWq : W0.os = w.os ∧ W0.tape = w.tape ∧ W0.output = w.output) (he : w'.heap = (wz.setCell ⟨U, i * 6 + 5, none⟩ vr').heap) (hq : w'.os = wz.os ∧ w'.tape = wz.tape ∧ w'.output = wz.output) :
    RdPost lo R M { x with us := x.us.set i (u.1, u.2.1, u.2.2.1, u.2.2.2.1, u.2.2.2.2 ++ [r]) } 0 (.returned (.int .i64 0)) w w' := by
  subst hm
  subst hk
  obtain ⟨u1, u3, u2⟩ := hU
  have hk : ∀ b, role b ≠ .no → W0.heap[b]? = w.heap[b]? := fun b hb => hW b (h.lt b hb).2
  have hk0 : ∀ b, role b = .flat → role b = .flat ∧ W0.heap[b]? = w.heap[b]? := fun b hb => ⟨hb, hk b (by rw [hb]; intro e; cases e)⟩
  have hUlt := h.lt U (by rw [u2]; intro e; cases e)
  have hvU : (Value.slice ra u.2.2.2.2.length rc).ownBlock ≠ some U := fun e => by
    have := r2 U e
    rw [u2] at this
    cases this
  obtain ⟨role', hr⟩ := put_rule (h.keep hk hWs) hu hn7 (repD_flat rfl hnew) (owns_keep u1 fun b hb => hk b (by
      have e : U = b := by injection hb
      rw [← e, u2]; intro e; cases e)) u2 (fun j y hy => (u3 j y hy).keep fun b hb => ⟨rfl, hk b (by rcases hb with hb | hb <;> (rw [hb]; intro e; cases e))⟩) hcs hnm hnmz hwf (hvs.keep rfl (by intro e; cases e) hk0) (hvd.keep rfl (by intro e; cases e) hk0)
    (owns_keep r1 fun b hb => hk b (by rw [r2 b hb]; intro e; cases e)) r2 (fun j y hy => repD_flat rfl (r3 j y hy)) hg hown hat
  refine ⟨rfl, ⟨hq.1.trans (hg.os.trans hWq.1), hq.2.1.trans (hg.tape.trans hWq.2.1), hq.2.2.trans (hg.output.trans hWq.2.2), ?_, fun b hb => ?_⟩, fun _ => ⟨_, role', hr.keep (fun b _ => by rw [he]) (by rw [he]; exact Nat.le_refl _)⟩⟩
  · rw [he]
    have h2 := hg.size
    have h3 : (wz.setCell ⟨U, i * 6 + 5, none⟩ vr').heap.size = wz.heap.size := by simp [World.setCell]
    omega
  · rw [he, setCell_heap, if_neg (by show b ≠ U; omega), hg.block b (by omega) fun e => ?_, hW b (by omega)]
    have := (h.lt b (by rw [r2 b e.symm]; intro e; cases e)).1
    omega
set_option maxHeartbeats 8000000 in
set_option maxRecDepth 1000000 in
theorem rule_none {lo : Nat} {w : World} {R M : Nat} {v : Value} {role : Nat → Role} {x : RSt} (h : RdAt lo w R M v role x) (hlo : lo ≤ w.heap.size) (few : x.us.length ≤ 16) {allow : Bool} {ad : Addr} {c : Nat} {s0 : ByteArray} (c0 : w.cell? ad = some (.string s0)) (hat : usAt x.us (bytesL s0) < 0) :
    Calls Tryz.prog 97 #[.pointer (some ⟨R, 0, none⟩), .bool allow, .slice (some ad) 3 c] w fun e w' => RdPost lo R M x 2 e w w' := by
  have HL : Aside (lo ≤ w.heap.size ∧ x.us.length ≤ 16 ∧ RdAt lo w R M v role x) := ⟨hlo, few, h⟩
  clear hlo few h
  go_enter Tryz.func97, Tryz.ntmps97
  go_wp2_with (go_at_call 133; refine (at_walk HL.out.2.2 HL.out.2.1 s0).mono ?_; rintro e w2 ⟨rfl, hb2⟩)
  go_ret
  exact ⟨rfl, hb2.mono HL.out.1, fun e => by cases e⟩
set_option maxHeartbeats 16000000 in
set_option maxRecDepth 1000000 in
theorem rule_three {T : Tab} (hf : Facts T) {lo : Nat} {w : World} {R M : Nat} {v : Value} {role : Nat → Role} {x : RSt} (h : RdAt lo w R M v role x) (hT : TabAt T w) (hlo : lo ≤ w.heap.size) (few : x.us.length ≤ 16) {allow : Bool} {ad : Addr} {c : Nat} {s0 s1 s2 : ByteArray} (c0 : w.cell? ad = some (.string s0)) (c1 : w.cell? ⟨ad.block, ad.off + 1, none⟩ = some (.string s1)) (c2 : w.cell? ⟨ad.block, ad.off + 2, none⟩ = some (.string s2))
    (z1 : s1.size ≤ maxLen) (z2 : s2.size ≤ maxLen) {i : Nat} (hi : usAt x.us (bytesL s0) = (i : Int)) {r : RuleD} {b1 b2 : Bool} {pf pt : Int} (hp : F_conf_pattern (bytesL s1) = some (r.1, r.2.1, r.2.2.1, r.2.2.2.1.1, r.2.2.2.1.2, r.2.2.2.2.1, r.2.2.2.2.2, b1)) (hsp : F_conf_span (bytesL s2) = some (pf, pt, b2))
    {x' : RSt} {e' : Int} (hF : ruleG x (bytesL s0) allow (r.1, r.2.1, r.2.2.1, r.2.2.2.1.1, r.2.2.2.1.2, r.2.2.2.2.1, r.2.2.2.2.2, b1) (pf, pt, b2) = some (x', e')) :
    Calls Tryz.prog 97 #[.pointer (some ⟨R, 0, none⟩), .bool allow, .slice (some ad) 3 c] w fun e w' => RdPost lo R M x' e' e w w' := by
  have hin := usAt_in x.us (bytesL s0)
  rw [hi] at hin
  have hil : i < x.us.length := by omega
  obtain ⟨xs, u1, u2, u3⟩ := h.hU
  obtain ⟨U, cap, rfl⟩ : ∃ U cap, v = .slice (some ⟨U, 0, none⟩) x.us.length cap := by
    rcases u1.2 with ⟨rfl, hn0⟩ | ⟨g, cap, cur, rfl, _⟩
    · omega
    · exact ⟨_, _, rfl⟩
  obtain ⟨m, hm⟩ : ∃ m, x.us.length = m := ⟨_, rfl⟩
  have HLN : Aside (x.us.length ≤ 16) := few
  have HP : Aside (F_conf_pattern (bytesL s1) = some (r.1, r.2.1, r.2.2.1, r.2.2.2.1.1, r.2.2.2.1.2, r.2.2.2.2.1, r.2.2.2.2.2, b1) ∧ F_conf_span (bytesL s2) = some (pf, pt, b2)) := ⟨hp, hsp⟩
  have HU : Aside (w.ownsRow lo 63 6 (.slice (some ⟨U, 0, none⟩) x.us.length cap) x.us.length xs ∧ (∀ i u, x.us[i]? = some u → UserAt lo w role i u ((xs.drop (i * 6)).take 6)) ∧ role U = .usr) := ⟨u1, u3, u2 U rfl⟩
  have hatw : ∀ {w' : World}, RdAt lo w' R M (.slice (some ⟨U, 0, none⟩) m cap) role x → Calls Tryz.prog 133 #[.pointer (some ⟨R, 0, none⟩), .string s0] w' fun e w'' => e = .returned (.int .i64 (i : Int)) ∧ Below w'.heap.size w' w'' := fun hr => by
    have := at_walk hr HLN.out s0
    rw [hi] at this
    exact this
  have HF : Aside (ruleG x (bytesL s0) allow (r.1, r.2.1, r.2.2.1, r.2.2.2.1.1, r.2.2.2.1.2, r.2.2.2.2.1, r.2.2.2.2.2, b1) (pf, pt, b2) = some (x', e')) := hF
  have HI : Aside (usAt x.us (bytesL s0) = (i : Int)) := hi
  rw [hm] at h hil
  have hil' : (i : Int) < (m : Int) := by omega
  have HM : Aside (x.us.length = m) := hm
  have HL : Aside (lo ≤ w.heap.size ∧ RdAt lo w R M (.slice (some ⟨U, 0, none⟩) m cap) role x) := ⟨hlo, h⟩
  have HT : Aside (TabAt T w) := hT
  clear u1 u2 u3 hin hi few hF hm hp hsp hlo h hT
  cases hc : (b1 && b2) with
  | false =>
    have hx : some (x, (2 : Int)) = some (x', e') := by
      rw [← HF.out]
      unfold ruleG
      dsimp only
      rw [hc]; rfl
    injection hx with hx
    obtain ⟨rfl, rfl⟩ := Prod.mk.inj hx
    clear HF
    go_enter Tryz.func97, Tryz.ntmps97
    go_wp2_with (first
      | (go_at_call 133; refine (hatw HL.out.2).mono ?_; rintro e w1 ⟨rfl, hb1⟩; have c11 := rl_cell c1 hb1)
      | (go_at_call 136; refine (pattern_calls hf (HT.out.below hb1) z1 HP.out.1).mono ?_; rintro e w2 ⟨cs, rfl, hcs, hb2'⟩; have hb2 := hb1.trans (hb2'.mono hb1.size); clear hb2'; obtain ⟨s3, s4, rfl, k1, k2, k3, k4, k5, k6⟩ := rule_cells hcs; have HK : Aside (_ ∧ _ ∧ _ ∧ _ ∧ _ ∧ _) := ⟨k1, k2, k3, k4, k5, k6⟩; clear hcs k1 k2 k3 k4 k5 k6; have c22 := rl_cell c2 hb2; have hA2 : ad.block < w2.heap.size := show (⟨ad.block, ad.off + 2, none⟩ : Addr).block < _ from cell_lt c22)
      | (go_at_call 137; (refine (span_calls hf (HT.out.below (hb2.alloc hb2.size _)) z2 HP.out.2).mono ?_; rintro e w4 ⟨rfl, q1, q2, hb4'⟩; have hb4 : Below w.heap.size w w4 := (hb2.alloc hb2.size _).trans (hb4'.mono (by simp; exact Nat.le_succ_of_le hb2.size)); have HQ : Aside (_ ∧ _) := ⟨q1, q2⟩; have HB4 : Aside (w4.heap[w2.heap.size]? = _) := (hb4'.block w2.heap.size (by simp)).trans (heap_alloc_new _ _); have HR4 : Aside (RdAt lo w4 R M (.slice (some ⟨U, 0, none⟩) m cap) role x) := HL.out.2.below hb4; clear q1 q2 hb4'; obtain ⟨_, _, _, _, _, _, _, c74, _, fz4⟩ := cells9 HR4.out.hR; have c04 := rl_cell c0 hb4)))
    go_region_with (go_at_call 133; (refine (hatw (w' := w4.drew) (HR4.out.keep (fun b _ => rfl) (Nat.le_refl _))).mono ?_; rintro e w5 ⟨rfl, hb5'⟩; have hb5 : Below w.heap.size w w5 := hb4.trans (Below.mono ⟨hb5'.os, hb5'.tape, hb5'.output, hb5'.size, hb5'.block⟩ hb4.size); obtain ⟨_, _, _, _, _, _, _, c75, _, fz5⟩ := cells9 (HL.out.2.below hb5).hR))
    all_goals go_wp2
    all_goals first
      | exact absurd hc (by decide)
      | (exfalso; simp_all; done)
      | (go_ret
         exact ⟨rfl, hb5.mono HL.out.1, fun e => by cases e⟩)
  | true =>
    rw [Bool.and_eq_true] at hc
    obtain ⟨rfl, rfl⟩ := hc
    obtain ⟨u, hu⟩ : ∃ u, x.us[i]? = some u := ⟨_, List.getElem?_eq_getElem (by rw [HM.out]; exact hil)⟩
    obtain ⟨nm, vs, vd, vr, y1, y2, y3, y4, y5, y6, rs, t1, t2, t3⟩ := HU.out.2.1 i u hu
    obtain ⟨ra, rc, rfl⟩ : ∃ ra rc, vr = .slice ra u.2.2.2.2.length rc := by
      rcases t1.2 with ⟨rfl, hn0⟩ | ⟨g, cap', cur, rfl, _⟩
      · exact ⟨none, 0, by rw [show u.2.2.2.2.length = 0 from hn0]⟩
      · exact ⟨_, _, rfl⟩
    have cU := (user_cells HU.out.1 y1).2.2.2.2.2
    obtain ⟨k, hk⟩ : ∃ k, u.2.2.2.2.length = k := ⟨_, rfl⟩
    have HRW : Aside (w.ownsRow lo 68 7 (.slice ra k rc) k rs ∧ ∀ b, (Value.slice ra k rc).ownBlock = some b → role b = .row i) := by
      rw [← hk]
      exact ⟨t1, t2⟩
    have HY : Aside (_ ∧ _ ∧ _ ∧ _ ∧ _ ∧ _ ∧ _ ∧ _ ∧ _ ∧ _) := ⟨hu, y1, y2, y3, y4, y5, y6, t1, t2, t3⟩
    clear hu y1 y2 y3 y4 y5 y6 t1 t2 t3
    rw [hk] at cU
    have HKK : Aside (u.2.2.2.2.length = k) := hk
    have hg : cond (Nat.beq k 64) (some (x, (7 : Int))) (cond (Nat.ble k 64) (some (({ x with us := x.us.set i (u.1, u.2.1, u.2.2.1, u.2.2.2.1, u.2.2.2.2 ++ [(allow, r.2.1, r.2.2.1, (r.2.2.2.1.1, r.2.2.2.1.2), pf, pt)]) } : RSt), (0 : Int))) none) = some (x', e') := by
      rw [← HF.out]
      unfold ruleG
      dsimp only
      rw [HI.out, Int.toNat_natCast, HY.out.1]
      dsimp only
      rw [hk]
      rfl
    clear hk HF
    by_cases h64 : k = 64
    · rw [h64] at hg
      have hx : some (x, (7 : Int)) = some (x', e') := hg
      injection hx with hx
      obtain ⟨rfl, rfl⟩ := Prod.mk.inj hx
      clear hg
      go_enter Tryz.func97, Tryz.ntmps97
      go_wp2_with (first
        | (go_at_call 133; refine (hatw HL.out.2).mono ?_; rintro e w1 ⟨rfl, hb1⟩; have c11 := rl_cell c1 hb1)
        | (go_at_call 136; refine (pattern_calls hf (HT.out.below hb1) z1 HP.out.1).mono ?_; rintro e w2 ⟨cs, rfl, hcs, hb2'⟩; have hb2 := hb1.trans (hb2'.mono hb1.size); clear hb2'; obtain ⟨s3, s4, rfl, k1, k2, k3, k4, k5, k6⟩ := rule_cells hcs; have HK : Aside (_ ∧ _ ∧ _ ∧ _ ∧ _ ∧ _) := ⟨k1, k2, k3, k4, k5, k6⟩; clear hcs k1 k2 k3 k4 k5 k6; have c22 := rl_cell c2 hb2; have hA2 : ad.block < w2.heap.size := show (⟨ad.block, ad.off + 2, none⟩ : Addr).block < _ from cell_lt c22)
        | (go_at_call 137; (refine (span_calls hf (HT.out.below (hb2.alloc hb2.size _)) z2 HP.out.2).mono ?_; rintro e w4 ⟨rfl, q1, q2, hb4'⟩; have hb4 : Below w.heap.size w w4 := (hb2.alloc hb2.size _).trans (hb4'.mono (by simp; exact Nat.le_succ_of_le hb2.size)); have HQ : Aside (_ ∧ _) := ⟨q1, q2⟩; have HB4 : Aside (w4.heap[w2.heap.size]? = _) := (hb4'.block w2.heap.size (by simp)).trans (heap_alloc_new _ _); have HR4 : Aside (RdAt lo w4 R M (.slice (some ⟨U, 0, none⟩) m cap) role x) := HL.out.2.below hb4; clear q1 q2 hb4'; obtain ⟨_, _, _, _, _, _, _, c74, _, fz4⟩ := cells9 HR4.out.hR; have c04 := rl_cell c0 hb4)))
      go_region_with (go_at_call 133; (refine (hatw (w' := w4.drew) (HR4.out.keep (fun b _ => rfl) (Nat.le_refl _))).mono ?_; rintro e w5 ⟨rfl, hb5'⟩; have hb5 : Below w.heap.size w w5 := hb4.trans (Below.mono ⟨hb5'.os, hb5'.tape, hb5'.output, hb5'.size, hb5'.block⟩ hb4.size); obtain ⟨_, _, _, _, _, _, _, c75, _, fz5⟩ := cells9 (HL.out.2.below hb5).hR; have cU5 := rl_cell cU hb5; have hU5 : U < w5.heap.size := show (⟨U, i * 6 + 5, none⟩ : Addr).block < _ from cell_lt cU5; have hL5 : Aside (w5.heap[w2.heap.size]? = _) := (hb5'.block w2.heap.size (by show w2.heap.size < w4.heap.size; exact (Array.getElem?_eq_some_iff.1 HB4.out).1)).trans HB4.out))
      all_goals go_wp2
      all_goals go_ret
      all_goals exact ⟨rfl, hb5.mono HL.out.1, fun e => by cases e⟩
    · rw [show Nat.beq k 64 = false from Bool.eq_false_iff.2 fun h => h64 (Nat.eq_of_beq_eq_true h), cond_false] at hg
      cases hkl : Nat.ble k 64 with
      | false => rw [hkl] at hg; cases hg
      | true =>
      rw [hkl] at hg
      have hkl := Nat.le_of_ble_eq_true hkl
      injection hg with hg
      obtain ⟨rfl, rfl⟩ := Prod.mk.inj hg
      obtain ⟨i0, hi0, hz0, hz1, hz2⟩ := info_parts infoR
      have HZ : Aside (_ ∧ _ ∧ _ ∧ _) := ⟨hi0, hz0, hz1, hz2⟩
      clear hi0 hz0 hz1 hz2
      go_enter Tryz.func97, Tryz.ntmps97
      go_wp2_with (first
        | (go_at_call 133; refine (hatw HL.out.2).mono ?_; rintro e w1 ⟨rfl, hb1⟩; have c11 := rl_cell c1 hb1)
        | (go_at_call 136; refine (pattern_calls hf (HT.out.below hb1) z1 HP.out.1).mono ?_; rintro e w2 ⟨cs, rfl, hcs, hb2'⟩; have hb2 := hb1.trans (hb2'.mono hb1.size); clear hb2'; obtain ⟨s3, s4, rfl, k1, k2, k3, k4, k5, k6⟩ := rule_cells hcs; have HK : Aside (_ ∧ _ ∧ _ ∧ _ ∧ _ ∧ _) := ⟨k1, k2, k3, k4, k5, k6⟩; clear hcs k1 k2 k3 k4 k5 k6; have c22 := rl_cell c2 hb2; have hA2 : ad.block < w2.heap.size := show (⟨ad.block, ad.off + 2, none⟩ : Addr).block < _ from cell_lt c22)
        | (go_at_call 137; (refine (span_calls hf (HT.out.below (hb2.alloc hb2.size _)) z2 HP.out.2).mono ?_; rintro e w4 ⟨rfl, q1, q2, hb4'⟩; have hb4 : Below w.heap.size w w4 := (hb2.alloc hb2.size _).trans (hb4'.mono (by simp; exact Nat.le_succ_of_le hb2.size)); have HQ : Aside (_ ∧ _) := ⟨q1, q2⟩; have HB4 : Aside (w4.heap[w2.heap.size]? = _) := (hb4'.block w2.heap.size (by simp)).trans (heap_alloc_new _ _); have HR4 : Aside (RdAt lo w4 R M (.slice (some ⟨U, 0, none⟩) m cap) role x) := HL.out.2.below hb4; clear q1 q2 hb4'; obtain ⟨_, _, _, _, _, _, _, c74, _, fz4⟩ := cells9 HR4.out.hR; have c04 := rl_cell c0 hb4)))
      go_region_with (go_at_call 133; (refine (hatw (w' := w4.drew) (HR4.out.keep (fun b _ => rfl) (Nat.le_refl _))).mono ?_; rintro e w5 ⟨rfl, hb5'⟩; have hb5 : Below w.heap.size w w5 := hb4.trans (Below.mono ⟨hb5'.os, hb5'.tape, hb5'.output, hb5'.size, hb5'.block⟩ hb4.size); obtain ⟨_, _, _, _, _, _, _, c75, _, fz5⟩ := cells9 (HL.out.2.below hb5).hR; have cU5 := rl_cell cU hb5; have hU5 : U < w5.heap.size := show (⟨U, i * 6 + 5, none⟩ : Addr).block < _ from cell_lt cU5; have hL5 : Aside (w5.heap[w2.heap.size]? = _) := (hb5'.block w2.heap.size (by show w2.heap.size < w4.heap.size; exact (Array.getElem?_eq_some_iff.1 HB4.out).1)).trans HB4.out; obtain ⟨l0, l1, l2, l3, l4, l5, l6, lz⟩ := cells7 hL5.out))
      all_goals
        go_wp2
        generalize hws : World.setCell _ _ _ = ws
        obtain ⟨e1, e2, e3, e4, e5, e6⟩ := rule_stored hL5.out hws
        clear l0 l1 l2 l3 l4 l5 l6 lz hws
        obtain ⟨l0, l1, l2, l3, l4, l5, l6, lz⟩ := cells7 e1
        have hUw : U < w.heap.size := show (⟨U, i * 6 + 5, none⟩ : Addr).block < _ from cell_lt cU
        have hw25 : w.heap.size ≤ w2.heap.size := hb2.size
        have hws : w.heap.size ≤ ws.heap.size := by rw [e3]; exact hb5.size
        have hold : ∀ b, b < w.heap.size → ws.heap[b]? = w.heap[b]? := fun b hb => (e2 b (by omega)).trans (hb5.block b hb)
        have cUs : ws.cell? ⟨U, i * 6 + 5, none⟩ = some (.slice ra k rc) := (World.cell?_of_block (hold U hUw)).trans cU
        have fUs : ws.frozen? ⟨U, i * 6 + 5, none⟩ = false := (World.frozen?_of_block (hold U hUw)).trans (HU.out.1.frozenAt _)
        have hUs : U < ws.heap.size := by omega
        have hLs : w2.heap.size < ws.heap.size := (Array.getElem?_eq_some_iff.1 e1).1
        have HVU : Aside (some U ≠ (Value.slice ra k rc).ownBlock) := fun e => by
          have h1 := HRW.out.2 U e.symm
          rw [HU.out.2.2] at h1
          cases h1
        have HO : Aside (ws.ownsRow lo 68 7 (.slice ra k rc) k rs) := by
          exact owns_keep HRW.out.1 fun b hb => hold b (HL.out.2.lt b (by rw [HRW.out.2 b hb]; intro e; cases e)).2
        have HH : Aside (_ ∧ _ ∧ _ ∧ _ ∧ _) := ⟨hold, hws, e4.trans hb5.os, e5.trans hb5.tape, e6.trans hb5.output⟩
        clear hold e1 e2 e3 e4 e5 e6 lz cU5 hL5 hU5 hb5' c75 fz5
        go_region_law ((refine step_append_own_at rfl (.tmp 74) (.tmp 76) 61 rfl lo 68 i0 ruleZ 7 72 Tryz.underlying61 HZ.out.1 HZ.out.2.1 HZ.out.2.2.1 HZ.out.2.2.2 rfl (by decide) (.slice ra k rc) k rs (by simp [Act.eval, Act.put]) (owns_keep HO.out fun b hb => heap_alloc_old _ _ (HO.out.lt b hb).2) ⟨ws.heap.size, 0, none⟩ 1 1 [.bool allow, .int .i64 r.2.1, .string s3, .string s4, .int .i64 r.2.2.2.1.2, .int .i64 pf, .int .i64 pt] (by simp [Act.eval, Act.put]) rfl (cells_new _ _ _) (fun u hu => List.all_eq_true.1 (show List.all [Value.bool allow, .int .i64 r.2.1, .string s3, .string s4, .int .i64 r.2.2.2.1.2, .int .i64 pf, .int .i64 pt] Value.oneCell' = true from rfl) u hu) (by unfold maxLen; omega) (by omega) (Nat.le_trans HL.out.1 (Nat.le_trans hws (by simp))) ?_; intro v' wz hown' hgrow hat'; obtain ⟨va', vc', rfl⟩ := own_slice hown'; have hUz : wz.heap[U]? = ws.heap[U]? := (hgrow.block U (by simp; omega) HVU.out).trans (heap_alloc_old _ _ hUs); have cUz : wz.cell? ⟨U, i * 6 + 5, none⟩ = some (.slice ra k rc) := (World.cell?_of_block hUz).trans cUs; have fUz : wz.frozen? ⟨U, i * 6 + 5, none⟩ = false := (World.frozen?_of_block hUz).trans fUs))
        all_goals
          go_wp2
          go_ret
          obtain ⟨y0, y1, y2, y3, y4, y5, y6, t1, t2, t3⟩ := HY.out
          exact rule_end HM.out HL.out.1 HL.out.2 HU.out y0 y1 y2 y3 y4 y5 y6 t1 t2 t3 HKK.out rfl (by rw [← HK.out.1, ← HK.out.2.1]; exact rule_rep HK.out.2.2.1 HK.out.2.2.2.1 HK.out.2.2.2.2.1 HK.out.2.2.2.2.2 HQ.out.1 HQ.out.2) hgrow hown' hat' (fun b hb => (heap_alloc_old _ _ (Nat.lt_of_lt_of_le hb hws)).trans (HH.out.1 b hb)) (Nat.le_trans hws (by simp)) HH.out.2.2 rfl ⟨rfl, rfl, rfl⟩
set_option maxHeartbeats 8000000 in
set_option maxRecDepth 1000000 in
theorem rule_walk {T : Tab} (hf : Facts T) {lo : Nat} {w : World} {R M : Nat} {v : Value} {role : Nat → Role} {x : RSt} (h : RdAt lo w R M v role x) (hT : TabAt T w) (hlo : lo ≤ w.heap.size) (few : x.us.length ≤ 16) {allow : Bool} {a : Option Addr} {n c : Nat} {ws : List ByteArray} (hn : ws.length = n) (hws : ∀ i s, ws[i]? = some s → ∃ ad, a = some ad ∧ w.cell? (ad.add i) = some (.string s) ∧ s.size ≤ maxLen) {x' : RSt} {e' : Int} (hF : ruleP x allow (ws.map bytesL) = some (x', e')) :
    Calls Tryz.prog 97 #[.pointer (some ⟨R, 0, none⟩), .bool allow, .slice a n c] w fun e w' => RdPost lo R M x' e' e w w' := by
  by_cases h3 : n = 3
  · subst h3
    match ws, hn, hws, hF with
    | [s0, s1, s2], _, hws, hF =>
    obtain ⟨ad, rfl, c0, z0⟩ := hws 0 s0 rfl
    obtain ⟨_, e1, c1, z1⟩ := hws 1 s1 rfl
    injection e1 with e1
    subst e1
    obtain ⟨_, e1, c2, z2⟩ := hws 2 s2 rfl
    injection e1 with e1
    subst e1
    have c0 : w.cell? ad = some (.string s0) := by rw [rl_add_0] at c0; exact c0
    rw [rl_add_pos _ (by decide)] at c1 c2
    have hF : cond (decide (usAt x.us (bytesL s0) < 0)) (some (x, 2)) ((F_conf_pattern (bytesL s1)).bind fun p => (F_conf_span (bytesL s2)).bind fun sp => ruleG x (bytesL s0) allow p sp) = some (x', e') := hF
    cases hat : decide (usAt x.us (bytesL s0) < 0) with
    | true =>
      rw [hat] at hF
      injection hF with hF
      obtain ⟨rfl, rfl⟩ := Prod.mk.inj hF
      exact rule_none h hlo few c0 (of_decide_eq_true hat)
    | false =>
      rw [hat, cond_false] at hF
      have hat := of_decide_eq_false hat
      obtain ⟨⟨p0, p1, p2, p3, p4, p5, p6, p7⟩, k1, hF⟩ := Option.bind_eq_some_iff.1 hF
      obtain ⟨⟨q0, q1, q2⟩, k2, hF⟩ := Option.bind_eq_some_iff.1 hF
      exact rule_three hf h hT hlo few c0 c1 c2 z1 z2 (i := (usAt x.us (bytesL s0)).toNat) (by omega) (r := (p0, p1, p2, (p3, p4), p5, p6)) (b1 := p7) k1 k2 hF
  · have hF : some (x, (2 : Int)) = some (x', e') := by
      rw [← hF]
      match ws, hn with
      | [], _ => rfl
      | [_], _ => rfl
      | [_, _], _ => rfl
      | [_, _, _], hn => exact absurd hn.symm h3
      | _ :: _ :: _ :: _ :: _, _ => rfl
    injection hF with hF
    obtain ⟨rfl, rfl⟩ := Prod.mk.inj hF
    clear hws hn
    go_enter Tryz.func97, Tryz.ntmps97
    go_wp2
    go_ret
    exact ⟨rfl, Below.refl _ _, fun e => by cases e⟩
end Go.Proofs.YtgfmfgombmpodaaGreatDoor

/- conf's reader: a limit's line, by hand. -/
namespace Go.Proofs.YtgfmfgombmpodaaGreatDoor
open Go.RowKit Pv
set_option linter.unusedVariables false
def limW (k : Nat) : ByteArray := match k with
  | 0 => ⟨#[99, 111, 110, 110, 115]⟩
  | 1 => ⟨#[115, 116, 114, 101, 97, 109, 115]⟩
  | 2 => ⟨#[98, 117, 102, 102, 101, 114]⟩
  | 3 => ⟨#[108, 111, 103]⟩
  | 4 => ⟨#[105, 100, 108, 101]⟩
  | 5 => ⟨#[100, 105, 97, 108]⟩
  | _ => ⟨#[108, 105, 115, 116]⟩
def limLo (k : Nat) : Int := match k with | 3 => 0 | _ => 1
def limHi (k : Nat) : Int := match k with
  | 0 => 16
  | 1 => 100
  | 2 => 65535
  | 3 => 100000
  | 4 => 1099511627776
  | 5 => 1099511627776
  | _ => 16384
def limCells (R : Nat) : Array Value := #[.string (limW 0), .int .i64 (limLo 0), .int .i64 (limHi 0), .pointer (some ⟨R, 0, none⟩), .string (limW 1), .int .i64 (limLo 1), .int .i64 (limHi 1), .pointer (some ⟨R, 1, none⟩), .string (limW 2), .int .i64 (limLo 2), .int .i64 (limHi 2), .pointer (some ⟨R, 2, none⟩), .string (limW 3), .int .i64 (limLo 3), .int .i64 (limHi 3), .pointer (some ⟨R, 3, none⟩), .string (limW 4), .int .i64 (limLo 4), .int .i64 (limHi 4), .pointer (some ⟨R, 4, none⟩), .string (limW 5), .int .i64 (limLo 5), .int .i64 (limHi 5), .pointer (some ⟨R, 5, none⟩), .string (limW 6), .int .i64 (limLo 6), .int .i64 (limHi 6), .pointer (some ⟨R, 6, none⟩)]
set_option maxHeartbeats 8000000 in
set_option maxRecDepth 1000000 in
theorem lims_walk (R : Nat) (w : World) : Calls Tryz.prog 60 #[.pointer (some ⟨R, 0, none⟩)] w fun e w' => e = .returned (.slice (some ⟨w.heap.size, 0, none⟩) 7 7) ∧ w'.heap[w.heap.size]? = some (.cells (limCells R) 124 (0, 0)) ∧ Below w.heap.size w w' := by
  go_enter Tryz.func60, Tryz.ntmps60
  go_wp2
  go_region
  go_wp2
  go_ret
  exact ⟨rfl, heap_alloc_new w _, Below.drew ((Below.refl _ w).alloc (Nat.le_refl _) _)⟩
theorem lim_at {w : World} {B R : Nat} {T : TypeId} (h : w.heap[B]? = some (.cells (limCells R) T (0, 0))) {k : Nat} (hk : k < 7) : w.cell? ⟨B, k * 4, none⟩ = some (.string (limW k)) ∧ w.cell? ⟨B, k * 4 + 1, none⟩ = some (.int .i64 (limLo k)) ∧ w.cell? ⟨B, k * 4 + 2, none⟩ = some (.int .i64 (limHi k)) ∧ w.cell? ⟨B, k * 4 + 3, none⟩ = some (.pointer (some ⟨R, k, none⟩)) := by
  match k, hk with
  | 0, _ | 1, _ | 2, _ | 3, _ | 4, _ | 5, _ | 6, _ => refine ⟨?_, ?_, ?_, ?_⟩ <;> (rw [cell_at h]; rfl)
  | k + 7, hk => omega
/-! ### what was told -/
theorem told_find : ∀ (bs : List ByteArray) (l : List MapEntry) (s : ByteArray) (i : Nat), l.map (fun e => (e.key, e.val)) = bs.map (fun x => (Value.string x, Value.bool true)) →
    ((bs.map bytesL).contains (bytesL s) = false ∧ Instr.findNow .string (.string s) l i = some none) ∨ ((bs.map bytesL).contains (bytesL s) = true ∧ ∃ j, Instr.findNow .string (.string s) l i = some (some (j, .bool true)))
  | [], [], s, i, _ => .inl ⟨rfl, rfl⟩
  | [], _ :: _, _, _, h => by cases h
  | _ :: _, [], _, _, h => by cases h
  | k :: bs, e :: l, s, i, h => by
    simp only [List.map_cons, List.cons.injEq, Prod.mk.injEq] at h
    obtain ⟨⟨h1, h2⟩, h3⟩ := h
    unfold Instr.findNow
    by_cases hk : k = s
    · subst hk
      rw [h1]
      exact .inr ⟨by simp, i, by simp [Instr.sameNow, h2, (MapKept.bytes_beq k k).2 rfl]⟩
    · rw [h1]
      have hne : Instr.sameNow .string (.string s) (.string k) = some false := by
        have : (s == k) = false := Bool.eq_false_iff.2 fun e => hk ((MapKept.bytes_beq s k).1 e).symm
        simp [Instr.sameNow, this]
      rw [hne]
      have hb : (bytesL s == bytesL k) = false := by
        rw [Bool.eq_false_iff]
        intro e
        have e : bytesL s = bytesL k := by simpa using e
        have h1 := bytes_eq s k
        rw [show (bytesL s == bytesL k) = true by rw [e]; simp] at h1
        have h2 : s.toList = k.toList := by simpa using h1
        rw [toList_data, toList_data] at h2
        apply hk
        have h3 : s.data = k.data := Array.toList_inj.1 h2
        cases s; cases k; simp_all
      rcases told_find bs l s (i + 1) h3 with ⟨q1, q2⟩ | ⟨q1, q2⟩
      · exact .inl ⟨by rw [List.map_cons, List.contains_cons, q1, hb]; rfl, q2⟩
      · exact .inr ⟨by rw [List.map_cons, List.contains_cons, q1]; simp, q2⟩
theorem zeroB (w : World) : (zeroValue 4).run Tryz.prog w = .ok (.bool false) w := by kernel_rfl
theorem run_told {w : World} {m : Nat} {ks : List (List Int)} (h : MapB w m ks) (s : ByteArray) :
    (Instr.lookup 108 (.map (some m)) (.string s) false).run Tryz.prog w = .ok (.bool (ks.contains (bytesL s))) w := by
  obtain ⟨es, clock, hb, _, bs, rfl, he⟩ := h
  have hc : ∀ e, (Instr.checkKey e 10000 9 (.string s)).run Tryz.prog w = .ok () w := fun e => MapKept.run_checkKey (k := .string s) Tryz.underlying9 (by simp [MapKept.IsKey]) e 9999
  rcases told_find bs es.toList s 0 he with ⟨h1, h2⟩ | ⟨h1, j, h2⟩
  · rw [h1]
    simp [Instr.lookup, run_underlying Tryz.underlying108, MapKept.run_getObj_map hb, hc, MapKept.run_findKey Tryz.underlying9 h2, Result.andThen, zeroB]
  · rw [h1]
    simp [Instr.lookup, run_underlying Tryz.underlying108, MapKept.run_getObj_map hb, hc, MapKept.run_findKey Tryz.underlying9 h2, Result.andThen]
theorem push_modify {α : Type} (es : Array α) (a : α) (f : α → α) : (es.push a).modify es.size f = es.push (f a) := by
  apply Array.ext
  · simp
  · intro i h1 h2
    rw [Array.getElem_modify]
    by_cases hi : es.size = i
    · subst hi
      simp
    · rw [if_neg hi]
      have hlt : i < es.size := by
        simp at h2
        omega
      rw [Array.getElem_push_lt hlt, Array.getElem_push_lt hlt]
def entE (s : ByteArray) (b : Bool) (clock : Nat) : MapEntry := { key := .string s, val := .bool b, born := clock }
theorem ent_found {es : Array MapEntry} {clock : Nat} (hborn : ∀ e ∈ es.toList, e.born < clock) (s : ByteArray) : (es.push (entE s false clock)).findIdx? (fun e => (e.born : Int) == (clock : Int)) = some es.size := by
  rw [Array.findIdx?_push]
  have : es.findIdx? (fun e => (e.born : Int) == (clock : Int)) = none := by
    rw [Array.findIdx?_eq_none_iff]
    intro e hm
    have := hborn e (by simpa using hm)
    simp
    omega
  rw [this]
  simp [entE]
set_option maxHeartbeats 1000000 in
theorem run_entry {w : World} {m : Nat} {ks : List (List Int)} (h : MapB w m ks) {s : ByteArray} (hs : ks.contains (bytesL s) = false) :
    ∃ (st : Nat) (w1 w2 : World), (Instr.mapEntry 108 (.map (some m)) (.string s)).run Tryz.prog w = .ok (.tuple #[.bool false, .int .i64 st]) w1 ∧ (Instr.entryStore 108 (.map (some m)) (.int .i64 st) (.bool true)).run Tryz.prog w1 = .ok () w2 ∧
      MapB w2 m (ks ++ [bytesL s]) ∧ w2.os = w.os ∧ w2.tape = w.tape ∧ w2.output = w.output ∧ w2.heap.size = w.heap.size ∧ ∀ b, b ≠ m → w2.heap[b]? = w.heap[b]? := by
  obtain ⟨es, clock, hb, hborn, bs, rfl, he⟩ := h
  have hc : ∀ e, (Instr.checkKey e 10000 9 (.string s)).run Tryz.prog w = .ok () w := fun e => MapKept.run_checkKey (k := .string s) Tryz.underlying9 (by simp [MapKept.IsKey]) e 9999
  rcases told_find bs es.toList s 0 he with ⟨h1, h2⟩ | ⟨h1, j, h2⟩
  · have hf := ent_found hborn s
    obtain ⟨O1, hO1⟩ : ∃ O1 : Obj, O1 = .map (es.push (entE s false clock)) (clock + 1) := ⟨_, rfl⟩
    obtain ⟨w1, hw1⟩ : ∃ w1 : World, w1 = { w with heap := w.heap.setIfInBounds m O1 } := ⟨_, rfl⟩
    have q1 : w1.heap[m]? = some (.map (es.push (entE s false clock)) (clock + 1)) := by rw [hw1, ← hO1]; exact (MapKept.heap_set hb).1
    have q2 : ∀ b, b ≠ m → w1.heap[b]? = w.heap[b]? := fun b hne => by rw [hw1]; exact (MapKept.heap_set hb).2 b hne
    obtain ⟨O2, hO2⟩ : ∃ O2 : Obj, O2 = .map (es.push (entE s true clock)) (clock + 1) := ⟨_, rfl⟩
    obtain ⟨w2, hw2⟩ : ∃ w2 : World, w2 = { w1 with heap := w1.heap.setIfInBounds m O2 } := ⟨_, rfl⟩
    have r1 : w2.heap[m]? = some (.map (es.push (entE s true clock)) (clock + 1)) := by rw [hw2, ← hO2]; exact (MapKept.heap_set q1).1
    have r2 : ∀ b, b ≠ m → w2.heap[b]? = w1.heap[b]? := fun b hne => by rw [hw2]; exact (MapKept.heap_set q1).2 b hne
    refine ⟨clock, w1, w2, ?_, ?_, ⟨_, _, r1, ?_, bs ++ [s], by simp, ?_⟩, by rw [hw2, hw1], by rw [hw2, hw1], by rw [hw2, hw1], by rw [hw2, hw1]; simp, fun b hne => (r2 b hne).trans (q2 b hne)⟩
    · have hset := MapKept.run_setObj_map (P := Tryz.prog) O1 hb
      rw [← hw1, hO1] at hset
      unfold entE at hset
      simp [Instr.mapEntry, run_underlying Tryz.underlying108, MapKept.run_getObj_map hb, hc, MapKept.run_findKey Tryz.underlying9 h2, hset, Result.andThen, zeroB, goInt]
    · have hset := MapKept.run_setObj_map (P := Tryz.prog) O2 q1
      rw [← hw2, hO2] at hset
      have hm : (es.push (entE s false clock)).modify es.size (fun e => { e with val := .bool true }) = es.push (entE s true clock) := push_modify _ _ _
      simp [Instr.entryStore, MapKept.run_getObj_map q1, asInt, asIntOf, hf, hm, hset, Result.andThen]
    · intro e hm
      simp at hm
      rcases hm with hm | rfl
      · have := hborn e (by simpa using hm)
        omega
      · show clock < clock + 1
        omega
    · simp [he, entE]
  · rw [h1] at hs; cases hs
/-! ### the walk -/
def RSt.setLim (x : RSt) (k : Nat) (n : Int) : RSt := match k with
  | 0 => { x with c0 := n }
  | 1 => { x with c1 := n }
  | 2 => { x with c2 := n }
  | 3 => { x with c3 := n }
  | 4 => { x with c4 := n }
  | 5 => { x with c5 := n }
  | _ => { x with c6 := n }
def RSt.lim (x : RSt) (k : Nat) : Int := match k with
  | 0 => x.c0
  | 1 => x.c1
  | 2 => x.c2
  | 3 => x.c3
  | 4 => x.c4
  | 5 => x.c5
  | _ => x.c6
def limAt (a : List Int) : Option Nat := (List.range 7).find? fun k => bytesL (limW k) == a
noncomputable def limitsP (x : RSt) : List (List Int) → Option (RSt × Bool)
  | [a, b] => cond (x.told.contains a) (some (x, false)) (match limAt a with
    | none => some (x, false)
    | some k => (F_conf_number b (limLo k) (limHi k)).bind fun p => some ({ x.setLim k p.1 with told := x.told ++ [a] }, p.2))
  | _ => some (x, false)
theorem told_more {lo : Nat} {W w2 : World} {R M : Nat} {v : Value} {role : Nat → Role} {x : RSt} {k : Nat} {n : Int} {s : ByteArray} (h : RdAt lo W R M v role x) (hk : k < 7) (hn : (Lit.int .i64 n).wf = true) (hm : MapB w2 M (x.told ++ [bytesL s])) (ho : ∀ b, b ≠ M → w2.heap[b]? = (W.setCell ⟨R, k, none⟩ (.int .i64 n)).heap[b]?) (hsz : w2.heap.size = W.heap.size) :
    RdAt lo w2 R M v role { x.setLim k n with told := x.told ++ [bytesL s] } := by
  have hRM : R ≠ M := fun e => by
    have := h.rM
    rw [← e, h.rR] at this
    cases this
  have hkeep : ∀ b, b ≠ M → b ≠ R → w2.heap[b]? = W.heap[b]? := fun b h1 h2 => by
    rw [ho b h1, setCell_heap, if_neg (by show b ≠ R; exact h2)]
  have hne : ∀ b, role b ≠ .rdr → role b ≠ .map → w2.heap[b]? = W.heap[b]? := fun b h1 h2 => hkeep b (fun e => h2 (by rw [e]; exact h.rM)) (fun e => h1 (by rw [e]; exact h.rR))
  have hR := h.hR
  have hwf := h.wf
  obtain ⟨xs, u1, u2, u3⟩ := h.hU
  have hU : UsAt lo w2 role x.us v := ⟨xs, owns_keep u1 fun b hb => hne b (by rw [u2 b hb]; intro e; cases e) (by rw [u2 b hb]; intro e; cases e), u2, fun i u hu => (u3 i u hu).keep fun b hb => ⟨rfl, hne b (by rcases hb with hb | hb <;> (rw [hb]; intro e; cases e)) (by rcases hb with hb | hb <;> (rw [hb]; intro e; cases e))⟩⟩
  have hlt : ∀ b, role b ≠ .no → lo ≤ b ∧ b < w2.heap.size := fun b hb => by rw [hsz]; exact h.lt b hb
  have h2 : w2.heap[R]? = some (.cells (#[Value.int .i64 x.c0, .int .i64 x.c1, .int .i64 x.c2, .int .i64 x.c3, .int .i64 x.c4, .int .i64 x.c5, .int .i64 x.c6, v, .map (some M)].setIfInBounds k (.int .i64 n)) 110 (0, 0)) := by
    rw [ho R hRM]
    exact set_heap hR
  have hints : ∀ c ∈ (x.setLim k n).ints, c = n ∨ c ∈ x.ints := by
    match k, hk with
    | 0, _ | 1, _ | 2, _ | 3, _ | 4, _ | 5, _ | 6, _ =>
      intro c hc
      simp [RSt.setLim, RSt.ints] at hc ⊢
      omega
    | k + 7, hk => omega
  refine ⟨?_, h.rR, hm, h.rM, ?_, hlt, fun c hc => ?_⟩
  · rw [h2]
    match k, hk with
    | 0, _ | 1, _ | 2, _ | 3, _ | 4, _ | 5, _ | 6, _ => rfl
    | k + 7, hk => omega
  · have : (x.setLim k n).us = x.us := by
      unfold RSt.setLim
      split <;> rfl
    show UsAt lo w2 role (x.setLim k n).us v
    rw [this]
    exact hU
  · rcases hints c hc with rfl | h
    · exact hn
    · exact hwf c h
theorem lim_cell {lo : Nat} {W : World} {R M : Nat} {v : Value} {role : Nat → Role} {x : RSt} (h : RdAt lo W R M v role x) {k : Nat} (hk : k < 7) : W.cell? ⟨R, k, none⟩ = some (.int .i64 (x.lim k)) := by
  obtain ⟨c0, c1, c2, c3, c4, c5, c6, _⟩ := cells9 h.hR
  match k, hk with
  | 0, _ => exact c0
  | 1, _ => exact c1
  | 2, _ => exact c2
  | 3, _ => exact c3
  | 4, _ => exact c4
  | 5, _ => exact c5
  | 6, _ => exact c6
  | k + 7, hk => omega
theorem limAt_some {a : List Int} {k : Nat} (hk : k < 7) (h : (bytesL (limW k) == a) = true) (hn : ∀ j, j < k → (bytesL (limW j) == a) = false) : limAt a = some k := by
  unfold limAt
  rw [List.find?_range_eq_some]
  refine ⟨h, by simpa using hk, fun j hj => ?_⟩
  rw [hn j hj]; rfl
theorem limAt_none {a : List Int} (hn : ∀ j, j < 7 → (bytesL (limW j) == a) = false) : limAt a = none := by
  unfold limAt
  rw [List.find?_eq_none]
  intro k hk
  rw [hn k (by simpa using hk)]
  decide
def LmPost (lo : Nat) (R M : Nat) (x' : RSt) (b : Bool) (e : Ending) (w w' : World) : Prop := e = .returned (.bool b) ∧ Below lo w w' ∧ (b = true → ∃ v' role', RdAt lo w' R M v' role' x')
set_option maxHeartbeats 8000000 in
set_option maxRecDepth 1000000 in
theorem lm_few {lo : Nat} {w : World} {R M : Nat} {x : RSt} {a : Option Addr} {n c : Nat} (hn : n ≠ 2) : Calls Tryz.prog 95 #[.pointer (some ⟨R, 0, none⟩), .slice a n c] w fun e w' => LmPost lo R M x false e w w' := by
  have hb : ((n : Int) != 2) = true := by simp; omega
  have hb2 : (n : Int) ≠ 2 := by omega
  go_enter Tryz.func95, Tryz.ntmps95
  go_wp2
  go_region
  all_goals (go_wp2; go_ret)
  all_goals exact ⟨rfl, Below.drew (Below.refl _ w), fun e => by cases e⟩
set_option maxHeartbeats 8000000 in
set_option maxRecDepth 1000000 in
theorem lm_told {lo : Nat} {w : World} {R M : Nat} {v : Value} {role : Nat → Role} {x : RSt} (h : RdAt lo w R M v role x) {ad : Addr} {c : Nat} {s0 : ByteArray} (c0 : w.cell? ad = some (.string s0)) (ht : x.told.contains (bytesL s0) = true) : Calls Tryz.prog 95 #[.pointer (some ⟨R, 0, none⟩), .slice (some ad) 2 c] w fun e w' => LmPost lo R M x false e w w' := by
  have hl := run_told h.hM s0
  have hld := run_told (w := w.drew) (h.hM.keep rfl) s0
  rw [ht] at hl hld
  obtain ⟨_, _, _, _, _, _, _, _, c8, _⟩ := cells9 h.hR
  clear h
  go_enter Tryz.func95, Tryz.ntmps95
  go_wp2
  go_region
  all_goals (go_wp2; go_ret)
  all_goals exact ⟨rfl, Below.drew (Below.refl _ w), fun e => by cases e⟩
end Go.Proofs.YtgfmfgombmpodaaGreatDoor

/- conf's reader: a limit's line, by hand: the loop. -/
namespace Go.Proofs.YtgfmfgombmpodaaGreatDoor
open Go.RowKit Pv
set_option linter.unusedVariables false
theorem lm_add_pos (a : Addr) {j : Nat} (hj : j ≠ 0) : a.add j = ⟨a.block, a.off + j, none⟩ := by
  unfold Addr.add
  rw [if_neg hj]
theorem lm_add_0 (a : Addr) : a.add 0 = a := by unfold Addr.add; simp
theorem lm_cell {w w' : World} {a : Addr} {u : Value} (h : w.cell? a = some u) (hb : Below w.heap.size w w') : w'.cell? a = some u := (hb.cell (cell_lt h)).trans h
theorem lm_word (k : Nat) (s : ByteArray) : ((limW k).toList == s.toList) = (bytesL (limW k) == bytesL s) := bytes_eq _ _
theorem lim_wf (k : Nat) : (Lit.int .i64 (limLo k)).wf = true ∧ (Lit.int .i64 (limHi k)).wf = true := by
  match k with
  | 0 | 1 | 2 | 3 | 4 | 5 => exact ⟨by decide, by decide⟩
  | k + 6 => exact ⟨rfl, rfl⟩
set_option maxHeartbeats 16000000 in
set_option maxRecDepth 1000000 in
theorem lm_two {T : Tab} (hf : Facts T) {lo : Nat} {w : World} {R M : Nat} {v : Value} {role : Nat → Role} {x : RSt} (h : RdAt lo w R M v role x) (hT : TabAt T w) (hlo : lo ≤ w.heap.size) {ad : Addr} {c : Nat} {s0 s1 : ByteArray} (c0 : w.cell? ad = some (.string s0)) (c1 : w.cell? ⟨ad.block, ad.off + 1, none⟩ = some (.string s1)) (z1 : s1.size ≤ maxLen) (hno : role ad.block = .no) (ht : x.told.contains (bytesL s0) = false)
    {x' : RSt} {e' : Bool} (hF : (match limAt (bytesL s0) with
    | none => some (x, false)
    | some k => (F_conf_number (bytesL s1) (limLo k) (limHi k)).bind fun p => some (({ x.setLim k p.1 with told := x.told ++ [bytesL s0] } : RSt), p.2)) = some (x', e')) :
    Calls Tryz.prog 95 #[.pointer (some ⟨R, 0, none⟩), .slice (some ad) 2 c] w fun e w' => LmPost lo R M x' e' e w w' := by
  have hl := run_told h.hM s0
  have hld := run_told (w := w.drew) (h.hM.keep rfl) s0
  rw [ht] at hl hld
  obtain ⟨_, _, _, _, _, _, _, _, c8, _⟩ := cells9 h.hR
  have HL : Aside (lo ≤ w.heap.size ∧ RdAt lo w R M v role x ∧ TabAt T w ∧ role ad.block = .no ∧ x.told.contains (bytesL s0) = false) := ⟨hlo, h, hT, hno, ht⟩
  have HF : Aside ((match limAt (bytesL s0) with
    | none => some (x, false)
    | some k => (F_conf_number (bytesL s1) (limLo k) (limHi k)).bind fun p => some (({ x.setLim k p.1 with told := x.told ++ [bytesL s0] } : RSt), p.2)) = some (x', e')) := hF
  clear h hlo hT hno hF ht
  go_enter Tryz.func95, Tryz.ntmps95
  go_wp2
  go_region
  clear hl hld
  go_wp2_with (go_at_call 60; refine (lims_walk R _).mono ?_; rintro e W1 ⟨rfl, hB, hb1⟩)
  have hb1 : Below w.heap.size w W1 := ⟨hb1.os, hb1.tape, hb1.output, hb1.size, hb1.block⟩
  have HB : Aside (W1.heap[w.heap.size]? = some (.cells (limCells R) 124 (0, 0))) := hB
  clear hB
  go_loopw [27] (fun vi wr => ∃ k : Nat, vi = .int .i64 k ∧ k ≤ 7 ∧ Below W1.heap.size W1 wr ∧ Aside (∀ j, j < k → (bytesL (limW j) == bytesL s0) = false)) (fun vi _ => 7 - (intOf vi).toNat)
  case atStart => exact ⟨0, rfl, by omega, Below.refl _ _, fun j hj => absurd hj (by omega)⟩
  case round =>
    obtain ⟨k, rfl, hk, hbr, HA⟩ := hrel
    have hb2 : Below w.heap.size w wr := hb1.trans (hbr.mono hb1.size)
    by_cases hk7 : k < 7
    · have hBr : wr.heap[w.heap.size]? = some (.cells (limCells R) 124 (0, 0)) := (hbr.block _ (Array.getElem?_eq_some_iff.1 HB.out).1).trans HB.out
      have hBl : w.heap.size < wr.heap.size := (Array.getElem?_eq_some_iff.1 hBr).1
      obtain ⟨k0, k1, k2, k3⟩ := lim_at hBr hk7
      have c0r := lm_cell c0 hb2
      have c1r := lm_cell c1 hb2
      have hadl : ad.block < wr.heap.size := cell_lt c0r
      have hwd := lm_word k s0
      obtain ⟨lw, hlw⟩ : ∃ lw, limW k = lw := ⟨_, rfl⟩
      obtain ⟨llo, hllo⟩ : ∃ l, limLo k = l := ⟨_, rfl⟩
      obtain ⟨lhi, hlhi⟩ : ∃ l, limHi k = l := ⟨_, rfl⟩
      rw [hlw] at k0 hwd
      rw [hllo] at k1
      rw [hlhi] at k2
      have HW : Aside (limW k = lw ∧ limLo k = llo ∧ limHi k = lhi) := ⟨hlw, hllo, hlhi⟩
      clear hBr hlw hllo hlhi
      cases hq : bytesL lw == bytesL s0 with
      | false =>
        rw [hq] at hwd
        have HQ : Aside ((bytesL lw == bytesL s0) = false) := hq
        clear hq
        go_wp2
        go_region
        go_wp2
        refine ⟨⟨k + 1, by simp, by omega, Below.drew (hbr.alloc hbr.size _), fun j hj => ?_⟩, by simp [intOf]; omega⟩
        rcases Nat.lt_or_ge j k with h | h
        · exact HA.out j h
        · obtain rfl : j = k := by omega
          rw [HW.out.1]
          exact HQ.out
      | true =>
        rw [hq] at hwd
        have hfind : limAt (bytesL s0) = some k := limAt_some hk7 (by rw [HW.out.1]; exact hq) HA.out
        have hF := HF.out
        rw [hfind] at hF
        obtain ⟨⟨n, b⟩, hnum, hF⟩ := Option.bind_eq_some_iff.1 hF
        injection hF with hF
        obtain ⟨rfl, rfl⟩ := Prod.mk.inj hF
        rw [HW.out.2.1, HW.out.2.2] at hnum
        obtain ⟨wlo, whi⟩ := lim_wf k
        rw [HW.out.2.1] at wlo
        rw [HW.out.2.2] at whi
        have hTb : ∀ W : World, (∀ b, b < w.heap.size → W.heap[b]? = w.heap[b]?) → TabAt T W := fun W hW p hp => by
          obtain ⟨ty, fr, h1⟩ := HL.out.2.2.1 p hp
          exact ⟨ty, fr, (hW p.1 (Array.getElem?_eq_some_iff.1 h1).1).trans h1⟩
        have hwb : w.heap.size ≤ wr.heap.size := hb2.size
        have hTz : TabAt T (wr.alloc (.cells #[.string lw, .int .i64 llo, .int .i64 lhi, .pointer (some ⟨R, k, none⟩)] 124)).drew.drew := hTb _ fun b hb => (heap_alloc_old wr _ (Nat.lt_of_lt_of_le hb hwb)).trans (hb2.block b hb)
        have HX : Aside (_ ∧ _ ∧ _ ∧ _) := ⟨hTz, hnum, wlo, whi⟩
        clear hTz
        clear HF hfind hq hTb hnum wlo whi
        go_wp2
        go_region
        go_wp2
        go_region_with (go_at_call 131; (refine (number_calls hf HX.out.1 z1 HX.out.2.2.1 HX.out.2.2.2 HX.out.2.1).mono ?_; rintro e w9 ⟨rfl, hwn, hb9⟩))
        all_goals
          have hb9' : Below w.heap.size w w9 := ⟨hb9.os.trans hb2.os, hb9.tape.trans hb2.tape, hb9.output.trans hb2.output, Nat.le_trans hwb (Nat.le_trans (by simp) hb9.size), fun b hb => (hb9.block b (by simp; omega)).trans ((heap_alloc_old wr (.cells #[.string lw, .int .i64 llo, .int .i64 lhi, .pointer (some ⟨R, k, none⟩)] 124) (Nat.lt_of_lt_of_le hb hwb)).trans (hb2.block b hb))⟩
          have ht9 : w9.heap[wr.heap.size]? = some (.cells #[.string lw, .int .i64 llo, .int .i64 lhi, .pointer (some ⟨R, k, none⟩)] 124) := (hb9.block wr.heap.size (by simp)).trans (heap_alloc_new wr _)
          have hp9 : w9.cell? ⟨wr.heap.size, 3, none⟩ = some (.pointer (some ⟨R, k, none⟩)) := by rw [cell_at ht9]; rfl
          have hr9 := HL.out.2.1.below hb9'
          obtain ⟨_, _, _, _, _, _, _, _, c89, fz9⟩ := cells9 hr9.hR
          have cR9 := lim_cell hr9 hk7
          have c09 := lm_cell c0 hb9'
          have hadR : ad.block ≠ R := fun e => by
            have := HL.out.2.2.2.1
            rw [e, HL.out.2.1.rR] at this
            cases this
          have hRM : M ≠ R := fun e => by
            have := HL.out.2.1.rM
            rw [e, HL.out.2.1.rR] at this
            cases this
          have hmb : MapB (w9.setCell ⟨R, k, none⟩ (.int .i64 n)).drew M x.told := hr9.hM.keep (by show (w9.setCell ⟨R, k, none⟩ (.int .i64 n)).heap[M]? = _; rw [setCell_heap, if_neg (by show M ≠ R; exact hRM)])
          obtain ⟨st, wa, wb, hme, hes, hm2, o1, o2, o3, o4, o5⟩ := run_entry hmb HL.out.2.2.2.2
          have HE : Aside (_ ∧ _ ∧ _ ∧ _ ∧ _ ∧ _ ∧ _ ∧ _ ∧ _) := ⟨hm2, o1, o2, o3, o4, o5, hr9, hwn, hb9'⟩
          have fk9 := fz9 k
          clear hm2 o1 o2 o3 o4 o5 hr9 hwn hb9 ht9 hmb fz9 hb9'
          go_wp2
          go_simp
          go_region
          all_goals
            go_wp2
            go_ret
            obtain ⟨hm2, o1, o2, o3, o4, o5, hr9, hwn, hb9'⟩ := HE.out
            refine ⟨rfl, ⟨o1.trans hb9'.os, o2.trans hb9'.tape, o3.trans hb9'.output, ?_, fun b hb => ?_⟩, fun _ => ⟨v, role, told_more hr9 hk7 hwn hm2 o5 (o4.trans (by simp [World.setCell]))⟩⟩
            · rw [o4]
              have := hb9'.size
              simpa [World.setCell, World.drew] using this
            · have hl1 := HL.out.1
              have hl2 := (HL.out.2.1.lt R (by rw [HL.out.2.1.rR]; intro e; cases e)).1
              have hl3 := (HL.out.2.1.lt M (by rw [HL.out.2.1.rM]; intro e; cases e)).1
              rw [o5 b (by omega)]
              show (w9.setCell ⟨R, k, none⟩ (.int .i64 n)).heap[b]? = _
              rw [setCell_heap, if_neg (by show b ≠ R; omega)]
              exact hb9'.block b (by omega)
    · obtain rfl : k = 7 := by omega
      have hx : some (x, false) = some (x', e') := by
        rw [← HF.out, limAt_none HA.out]
      injection hx with hx
      obtain ⟨rfl, rfl⟩ := Prod.mk.inj hx
      clear HF
      go_wp2
      go_ret
      exact ⟨rfl, hb2.mono HL.out.1, fun e => by cases e⟩
end Go.Proofs.YtgfmfgombmpodaaGreatDoor

/- conf's reader: a line, by hand. -/
namespace Go.Proofs.YtgfmfgombmpodaaGreatDoor
open Go.RowKit Pv
set_option linter.unusedVariables false
theorem lm_walk {T : Tab} (hf : Facts T) {lo : Nat} {w : World} {R M : Nat} {v : Value} {role : Nat → Role} {x : RSt} (h : RdAt lo w R M v role x) (hT : TabAt T w) (hlo : lo ≤ w.heap.size) {a : Option Addr} {n c : Nat} {ws : List ByteArray} (hn : ws.length = n) (hws : ∀ i s, ws[i]? = some s → ∃ ad, a = some ad ∧ w.cell? (ad.add i) = some (.string s) ∧ s.size ≤ maxLen) (hno : ∀ ad, a = some ad → role ad.block = .no) {x' : RSt} {e' : Bool} (hF : limitsP x (ws.map bytesL) = some (x', e')) :
    Calls Tryz.prog 95 #[.pointer (some ⟨R, 0, none⟩), .slice a n c] w fun e w' => LmPost lo R M x' e' e w w' := by
  by_cases h2 : n = 2
  · subst h2
    match ws, hn, hws, hF with
    | [s0, s1], _, hws, hF =>
    obtain ⟨ad, rfl, c0, z0⟩ := hws 0 s0 rfl
    obtain ⟨_, e1, c1, z1⟩ := hws 1 s1 rfl
    injection e1 with e1
    subst e1
    have c0 : w.cell? ad = some (.string s0) := by rw [lm_add_0] at c0; exact c0
    rw [lm_add_pos _ (by decide)] at c1
    have hF : cond (x.told.contains (bytesL s0)) (some (x, false)) (match limAt (bytesL s0) with
      | none => some (x, false)
      | some k => (F_conf_number (bytesL s1) (limLo k) (limHi k)).bind fun p => some (({ x.setLim k p.1 with told := x.told ++ [bytesL s0] } : RSt), p.2)) = some (x', e') := hF
    cases ht : x.told.contains (bytesL s0) with
    | true =>
      rw [ht] at hF
      injection hF with hF
      obtain ⟨rfl, rfl⟩ := Prod.mk.inj hF
      refine (lm_told h c0 ht).mono fun e w' ⟨q1, q2, q3⟩ => ⟨q1, q2, q3⟩
    | false =>
      rw [ht, cond_false] at hF
      exact lm_two hf h hT hlo c0 c1 z1 (hno ad rfl) ht hF
  · have hF : some (x, false) = some (x', e') := by
      rw [← hF]
      match ws, hn with
      | [], _ => rfl
      | [_], _ => rfl
      | [_, _], hn => exact absurd hn.symm h2
      | _ :: _ :: _ :: _, _ => rfl
    injection hF with hF
    obtain ⟨rfl, rfl⟩ := Prod.mk.inj hF
    exact lm_few h2
theorem strs_of : ∀ (l : List (List Int)) (cur : Array Value), (∀ (i : Nat) (y : List Int), l[i]? = some y → ∃ t : ByteArray, cur[i]? = some (.string t) ∧ bytesL t = y ∧ t.size ≤ maxLen) → ∃ ws : List ByteArray, ws.map bytesL = l ∧ ∀ (i : Nat) (t : ByteArray), ws[i]? = some t → cur[i]? = some (.string t) ∧ t.size ≤ maxLen := by
  intro l cur h
  have key : ∀ k, k ≤ l.length → ∃ ws : List ByteArray, ws.map bytesL = l.take k ∧ ∀ (i : Nat) (t : ByteArray), ws[i]? = some t → cur[i]? = some (.string t) ∧ t.size ≤ maxLen := by
    intro k
    induction k with
    | zero => exact fun _ => ⟨[], rfl, fun i t ht => by simp at ht⟩
    | succ k ih =>
      intro hk
      obtain ⟨ws, h1, h2⟩ := ih (by omega)
      have hget : l[k]? = some l[k] := List.getElem?_eq_getElem (by omega)
      obtain ⟨t, ht, ht2, ht3⟩ := h k _ hget
      have hl : ws.length = k := by
        have := congrArg List.length h1
        rw [List.length_map, List.length_take] at this
        omega
      refine ⟨ws ++ [t], ?_, fun i u hu => ?_⟩
      · rw [List.map_append, h1, List.take_add_one, hget, ← ht2]; rfl
      · rcases Nat.lt_or_ge i ws.length with hi | hi
        · rw [List.getElem?_append_left hi] at hu
          exact h2 i u hu
        · rw [List.getElem?_append_right hi] at hu
          have hi2 : i = k := by
            have := (List.getElem?_eq_some_iff.1 hu).1
            simp at this
            omega
          subst hi2
          rw [hl, Nat.sub_self] at hu
          injection hu with hu
          subst hu
          exact ⟨ht, ht3⟩
  obtain ⟨ws, h1, h2⟩ := key l.length (Nat.le_refl _)
  exact ⟨ws, by rw [h1, List.take_length], h2⟩
theorem split_calls {T : Tab} (hf : Facts T) {W : World} (hT : TabAt T W) {s : ByteArray} (hs : s.size ≤ maxLen) (hz : Nat.ble (bytesL s).length 4000000000 = true) :
    Calls Tryz.prog 94 #[.string s, .string ⟨#[32]⟩] W fun e W' => ∃ (B cap : Nat) (ws : List ByteArray), e = .returned (.slice (some ⟨B, 0, none⟩) ws.length cap) ∧ ws.map bytesL = splitI (bytesL s) 32 ∧ W.heap.size ≤ B ∧ B < W'.heap.size ∧ ws.length ≤ cap ∧ (∀ (i : Nat) (t : ByteArray), ws[i]? = some t → W'.cell? ⟨B, i, none⟩ = some (.string t) ∧ t.size ≤ maxLen) ∧ Below W.heap.size W W' := by
  have h : F_strings_Split (bytesL s) [32] = some (splitI (bytesL s) 32) := by
    unfold F_strings_Split
    dsimp only
    rw [hz]; rfl
  refine (fn_calls hT (s := F_strings_Split_sig) (al := [⟨false, flat .str (bytesL s), .string s⟩, ⟨false, flat .str (bytesL ⟨#[32]⟩), .string ⟨#[32]⟩⟩]) (y := (splitI (bytesL s) 32 : List (List Int))) (F_strings_Split_sound hf.maxlen) rfl Tryz.func94
    (List.forall_mem_cons.2 ⟨str_ok hs, List.forall_mem_cons.2 ⟨str_ok (by decide), fun a h => by cases h⟩⟩) (appF_c (appF_c (appF_n h)))).mono ?_
  obtain ⟨l, hl⟩ : ∃ l, splitI (bytesL s) 32 = l := ⟨_, rfl⟩
  have hne : l ≠ [] := by rw [← hl]; exact splitI_ne _ _
  rw [hl]
  rintro e W' ⟨us, g', st', rfl, h1, h2, h3, h4⟩
  have e2 : (exitSt F_strings_Split_sig (l : List (List Int))).map (fun st => (st.φ 0, st.O (.hd 0 0))) = some (.w false [.own (.hd 0 0) 9 .str l], true) := rfl
  rw [h2] at e2
  injection e2 with e2
  have q0 := h4 0
  rw [show st'.φ 0 = _ from congrArg Prod.fst e2] at q0
  have hO : st'.O (.hd 0 0) = true := congrArg Prod.snd e2
  obtain ⟨u, rfl⟩ : ∃ u, us = [u] := by
    match us, h1 with
    | [u], _ => exact ⟨u, rfl⟩
  obtain ⟨cs, g1, g2⟩ := q0
  have g2 : cs = [u] := g2
  subst g2
  obtain ⟨c1, c2, g3, ⟨hrd, hown⟩, g4⟩ := g1
  have g4 : c2 = [] := g4
  subst g4
  rw [List.append_nil] at g3
  subst g3
  obtain ⟨v, hv, hOw⟩ := hown hO
  injection hv with hv
  subst hv
  rcases hOw with ⟨a, _, hnil, _⟩ | ⟨bl, cap, cur, hv2, hblk, hcell, hlc, hcm, hcs, hel, hC, hW⟩
  · exact absurd hnil hne
  have hcs : cur.size = cap * 1 := hcs
  have hlc : l.length ≤ cap := hlc
  have hel2 : ∀ (i : Nat) (y : List Int), l[i]? = some y → ∃ t : ByteArray, cur[i]? = some (.string t) ∧ bytesL t = y ∧ t.size ≤ maxLen := fun i y hy => by
    obtain ⟨t, ht, ht2, ht3⟩ := hel i y hy
    have hi : i < l.length := (List.getElem?_eq_some_iff.1 hy).1
    have hic : i < cur.size := by omega
    refine ⟨t, ?_, ht2, ht3⟩
    rw [show (Ty.str).size = 1 from rfl, Nat.mul_one, List.drop_eq_getElem_cons (by simpa using hic)] at ht
    simp only [List.take_succ_cons, List.take_zero, List.cons.injEq, and_true, Array.getElem_toList] at ht
    rw [Array.getElem?_eq_getElem hic, ht]
  obtain ⟨ws, hwl, hw2⟩ : ∃ ws : List ByteArray, ws.map bytesL = l ∧ ∀ (i : Nat) (t : ByteArray), ws[i]? = some t → cur[i]? = some (.string t) ∧ t.size ≤ maxLen := strs_of l cur hel2
  have hwlen : ws.length = l.length := by rw [← hwl, List.length_map]
  refine ⟨bl, cap, ws, ?_, hwl, ?_, (Array.getElem?_eq_some_iff.1 hcell).1, by omega, fun i t ht => ?_, h3⟩
  · show Ending.returned u = _
    rw [hv2, hwlen]
    rfl
  · rcases hW _ (Nat.le_refl _) with h | h
    · exact h
    · exact h.elim
  · obtain ⟨k1, k2⟩ := hw2 i t ht
    exact ⟨by rw [cell_at hcell]; exact k1, k2⟩
/-! ### a line -/
def lbL : List Int := [108, 105, 109, 105, 116]
def lbU : List Int := [117, 115, 101, 114]
def lbA : List Int := [97, 108, 108, 111, 119]
def lbD : List Int := [100, 101, 110, 121]
theorem ln_lit (s : ByteArray) (l : List UInt8) : (s.toList == l) = (bytesL s == l.map byteI) := by
  have h := bytes_eq s ⟨l.toArray⟩
  have e : (⟨l.toArray⟩ : ByteArray).toList = l := by rw [toList_data]
  rw [e] at h
  exact h
noncomputable def lineW (x : RSt) (w0 : List Int) (ws : List (List Int)) : Option (RSt × Int) :=
  cond (w0 == lbL) ((limitsP x ws).map fun p => (p.1, cond p.2 0 2)) (cond (w0 == lbU) (userP x ws) (cond (w0 == lbA) (ruleP x true ws) (cond (w0 == lbD) (ruleP x false ws) (some (x, 2)))))
noncomputable def lineP (x : RSt) (s : List Int) : Option (RSt × Int) := cond (Nat.ble s.length 4000000000 && Nat.ble x.us.length 16) (match splitI s 32 with
  | [] => none
  | w0 :: ws => lineW x w0 ws) none
theorem ln_is {s0 : ByteArray} {l : List UInt8} (h : (s0.toList == l) = true) : bytesL s0 = l.map byteI := by
  rw [ln_lit] at h
  simpa using h
theorem ln_not {s0 : ByteArray} {l : List UInt8} (h : (s0.toList == l) = false) : (bytesL s0 == l.map byteI) = false := by
  rw [← ln_lit]; exact h
theorem tail1 {w : World} {B : Nat} {s0 : ByteArray} {ts : List ByteArray} (h : ∀ (i : Nat) (t : ByteArray), (s0 :: ts)[i]? = some t → w.cell? ⟨B, i, none⟩ = some (.string t) ∧ t.size ≤ maxLen) :
    ∀ i t, ts[i]? = some t → ∃ ad, some (⟨B, 1, none⟩ : Addr) = some ad ∧ w.cell? (ad.add i) = some (.string t) ∧ t.size ≤ maxLen := fun i t ht => by
  obtain ⟨h1, h2⟩ := h (i + 1) t ht
  refine ⟨⟨B, 1, none⟩, rfl, ?_, h2⟩
  rw [add_at, Nat.add_comm]
  exact h1
theorem tail0 {w : World} {a : Option Addr} {ts : List ByteArray} (h : ts.length = 0) :
    ∀ i t, ts[i]? = some t → ∃ ad, a = some ad ∧ w.cell? (ad.add i) = some (.string t) ∧ t.size ≤ maxLen := fun i t ht => by
  have := (List.getElem?_eq_some_iff.1 ht).1
  omega
theorem no_blk {role : Nat → Role} {B o : Nat} (h : role B = .no) : ∀ ad, some (⟨B, o, none⟩ : Addr) = some ad → role ad.block = .no := fun ad e => by
  injection e with e
  rw [← e]; exact h
theorem ws_cons {ws : List ByteArray} {w0 : List Int} {rest : List (List Int)} (h : ws.map bytesL = w0 :: rest) : ∃ s0 ts, ws = s0 :: ts ∧ bytesL s0 = w0 ∧ ts.map bytesL = rest := by
  cases ws with
  | nil => cases h
  | cons s0 ts =>
    injection h with h1 h2
    exact ⟨s0, ts, rfl, h1, h2⟩
set_option maxHeartbeats 16000000 in
set_option maxRecDepth 1000000 in
theorem line_lim {T : Tab} (hf : Facts T) {lo : Nat} {w : World} {R M : Nat} {v : Value} {role : Nat → Role} {x : RSt} (h : RdAt lo w R M v role x) (hT : TabAt T w) (hlo : lo ≤ w.heap.size) (few : x.us.length ≤ 16) {s : ByteArray} (hs : s.size ≤ maxLen) (hz : Nat.ble (bytesL s).length 4000000000 = true) {w0 : List Int} {rest : List (List Int)} (hspl : splitI (bytesL s) 32 = w0 :: rest) (hk : (w0 == ([108, 105, 109, 105, 116] : List UInt8).map byteI) = true ∧ True ∧ True ∧ True) {x' : RSt} {b : Bool} (hF : limitsP x rest = some (x', b)) :
    Calls Tryz.prog 54 #[.pointer (some ⟨R, 0, none⟩), .string s] w fun e w' => RdPost lo R M x' (cond b 0 2) e w w' := by
  have hsp := split_calls hf hT hs hz
  have HL : Aside (lo ≤ w.heap.size ∧ RdAt lo w R M v role x ∧ TabAt T w ∧ x.us.length ≤ 16) := ⟨hlo, h, hT, few⟩
  have HS : Aside (splitI (bytesL s) 32 = w0 :: rest) := hspl
  have HK : Aside ((w0 == ([108, 105, 109, 105, 116] : List UInt8).map byteI) = true ∧ True ∧ True ∧ True) := hk
  clear hlo h hT few hz hspl hk
  have HF : Aside (limitsP x rest = some (x', b)) := hF
  clear hF
  go_enter Tryz.func54, Tryz.ntmps54
  go_wp2_with (first
    | (go_at_call 94; (refine hsp.mono ?_; rintro e w1 ⟨B, cap, ws, rfl, hwl, hB, hBl, hcap, hcell, hb1⟩; obtain ⟨s0, ts, rfl, hs0, hts⟩ := ws_cons (hwl.trans HS.out); have c10 : w1.cell? ⟨B, 0, none⟩ = some (.string s0) := (hcell 0 s0 rfl).1; have hcap : ts.length + 1 ≤ cap := hcap; have HW : Aside (RdAt lo w1 R M v role x ∧ TabAt T w1 ∧ lo ≤ w1.heap.size ∧ (∀ i t, ts[i]? = some t → ∃ ad, some (⟨B, 1, none⟩ : Addr) = some ad ∧ w1.cell? (ad.add i) = some (.string t) ∧ t.size ≤ maxLen) ∧ role B = .no ∧ ts.map bytesL = rest ∧ Below lo w w1) := ⟨HL.out.2.1.below hb1, HL.out.2.2.1.below hb1, Nat.le_trans HL.out.1 hb1.size, tail1 hcell, Classical.byContradiction (fun hr => absurd (HL.out.2.1.lt B hr).2 (by omega)), hts, hb1.mono HL.out.1⟩; have e0 : (s0.toList == [108, 105, 109, 105, 116]) = true := by { rw [ln_lit, hs0]; exact HK.out.1 }; clear hcell hwl hts hs0 hb1)))
  · have hl : limitsP x (ts.map bytesL) = some (x', b) := by rw [HW.out.2.2.2.2.2.1]; exact HF.out
    have ht0 : ts.length = 0 := by omega
    refine (lm_walk hf HW.out.1 HW.out.2.1 HW.out.2.2.1 (a := some ⟨B, 0, none⟩) (n := ts.length) (c := 0) (ws := ts) rfl (tail0 ht0) (no_blk HW.out.2.2.2.2.1) hl).mono ?_
    rintro e w2 ⟨rfl, hb2, h2⟩
    clear e0 hcap
    cases b with
    | true =>
      go_wp2
      go_ret
      exact ⟨rfl, HW.out.2.2.2.2.2.2.trans hb2, fun _ => h2 trivial⟩
    | false =>
      go_wp2
      go_ret
      exact ⟨rfl, HW.out.2.2.2.2.2.2.trans hb2, fun e => by cases e⟩
  · have hl : limitsP x (ts.map bytesL) = some (x', b) := by rw [HW.out.2.2.2.2.2.1]; exact HF.out
    refine (lm_walk hf HW.out.1 HW.out.2.1 HW.out.2.2.1 (a := some ⟨B, 1, none⟩) (n := ts.length) (c := cap - 1) (ws := ts) rfl HW.out.2.2.2.1 (no_blk HW.out.2.2.2.2.1) hl).mono ?_
    rintro e w2 ⟨rfl, hb2, h2⟩
    clear e0 hcap
    cases b with
    | true =>
      go_wp2
      go_ret
      exact ⟨rfl, HW.out.2.2.2.2.2.2.trans hb2, fun _ => h2 trivial⟩
    | false =>
      go_wp2
      go_ret
      exact ⟨rfl, HW.out.2.2.2.2.2.2.trans hb2, fun e => by cases e⟩
end Go.Proofs.YtgfmfgombmpodaaGreatDoor

/- conf's reader: a line, by hand: the other kinds. -/
namespace Go.Proofs.YtgfmfgombmpodaaGreatDoor
open Go.RowKit Pv
set_option linter.unusedVariables false
set_option maxHeartbeats 16000000 in
set_option maxRecDepth 1000000 in
theorem line_user {T : Tab} (hf : Facts T) {lo : Nat} {w : World} {R M : Nat} {v : Value} {role : Nat → Role} {x : RSt} (h : RdAt lo w R M v role x) (hT : TabAt T w) (hlo : lo ≤ w.heap.size) (few : x.us.length ≤ 16) {s : ByteArray} (hs : s.size ≤ maxLen) (hz : Nat.ble (bytesL s).length 4000000000 = true) {w0 : List Int} {rest : List (List Int)} (hspl : splitI (bytesL s) 32 = w0 :: rest) (hk : (w0 == ([108, 105, 109, 105, 116] : List UInt8).map byteI) = false ∧ (w0 == ([117, 115, 101, 114] : List UInt8).map byteI) = true ∧ True ∧ True) {x' : RSt} {e' : Int} (hF : userP x rest = some (x', e')) :
    Calls Tryz.prog 54 #[.pointer (some ⟨R, 0, none⟩), .string s] w fun e w' => RdPost lo R M x' e' e w w' := by
  have hsp := split_calls hf hT hs hz
  have HL : Aside (lo ≤ w.heap.size ∧ RdAt lo w R M v role x ∧ TabAt T w ∧ x.us.length ≤ 16) := ⟨hlo, h, hT, few⟩
  have HS : Aside (splitI (bytesL s) 32 = w0 :: rest) := hspl
  have HK : Aside ((w0 == ([108, 105, 109, 105, 116] : List UInt8).map byteI) = false ∧ (w0 == ([117, 115, 101, 114] : List UInt8).map byteI) = true ∧ True ∧ True) := hk
  clear hlo h hT few hz hspl hk
  have HF : Aside (userP x rest = some (x', e')) := hF
  clear hF
  go_enter Tryz.func54, Tryz.ntmps54
  go_wp2_with (go_at_call 94; (refine hsp.mono ?_; rintro e w1 ⟨B, cap, ws, rfl, hwl, hB, hBl, hcap, hcell, hb1⟩; obtain ⟨s0, ts, rfl, hs0, hts⟩ := ws_cons (hwl.trans HS.out); have c10 : w1.cell? ⟨B, 0, none⟩ = some (.string s0) := (hcell 0 s0 rfl).1; have hcap : ts.length + 1 ≤ cap := hcap; have HW : Aside (RdAt lo w1 R M v role x ∧ TabAt T w1 ∧ lo ≤ w1.heap.size ∧ (∀ i t, ts[i]? = some t → ∃ ad, some (⟨B, 1, none⟩ : Addr) = some ad ∧ w1.cell? (ad.add i) = some (.string t) ∧ t.size ≤ maxLen) ∧ role B = .no ∧ ts.map bytesL = rest ∧ Below lo w w1) := ⟨HL.out.2.1.below hb1, HL.out.2.2.1.below hb1, Nat.le_trans HL.out.1 hb1.size, tail1 hcell, Classical.byContradiction (fun hr => absurd (HL.out.2.1.lt B hr).2 (by omega)), hts, hb1.mono HL.out.1⟩; have e0 : (s0.toList == [108, 105, 109, 105, 116]) = false := by { rw [ln_lit, hs0]; exact HK.out.1 }; have e1 : (s0.toList == [117, 115, 101, 114]) = true := by { rw [ln_lit, hs0]; exact HK.out.2.1 }; clear hcell hwl hts hs0 hb1))
  · have hl : userP x (ts.map bytesL) = some (x', e') := by rw [HW.out.2.2.2.2.2.1]; exact HF.out
    have ht0 : ts.length = 0 := by omega
    refine (user_walk hf HW.out.1 HW.out.2.1 HW.out.2.2.1 HL.out.2.2.2 (a := some ⟨B, 0, none⟩) (n := ts.length) (c := 0) (ws := ts) rfl (tail0 ht0) hl).mono ?_
    rintro e w2 ⟨rfl, hb2, h2⟩
    have H2 : Aside (_ ∧ _) := ⟨hb2, h2⟩
    clear e0 e1 hcap hb2 h2
    go_wp2
    go_ret
    exact ⟨rfl, HW.out.2.2.2.2.2.2.trans H2.out.1, H2.out.2⟩
  · have hl : userP x (ts.map bytesL) = some (x', e') := by rw [HW.out.2.2.2.2.2.1]; exact HF.out
    refine (user_walk hf HW.out.1 HW.out.2.1 HW.out.2.2.1 HL.out.2.2.2 (a := some ⟨B, 1, none⟩) (n := ts.length) (c := cap - 1) (ws := ts) rfl HW.out.2.2.2.1 hl).mono ?_
    rintro e w2 ⟨rfl, hb2, h2⟩
    have H2 : Aside (_ ∧ _) := ⟨hb2, h2⟩
    clear e0 e1 hcap hb2 h2
    go_wp2
    go_ret
    exact ⟨rfl, HW.out.2.2.2.2.2.2.trans H2.out.1, H2.out.2⟩
set_option maxHeartbeats 16000000 in
set_option maxRecDepth 1000000 in
theorem line_none {T : Tab} (hf : Facts T) {lo : Nat} {w : World} {R M : Nat} {v : Value} {role : Nat → Role} {x : RSt} (h : RdAt lo w R M v role x) (hT : TabAt T w) (hlo : lo ≤ w.heap.size) (few : x.us.length ≤ 16) {s : ByteArray} (hs : s.size ≤ maxLen) (hz : Nat.ble (bytesL s).length 4000000000 = true) {w0 : List Int} {rest : List (List Int)} (hspl : splitI (bytesL s) 32 = w0 :: rest) (hk : (w0 == ([108, 105, 109, 105, 116] : List UInt8).map byteI) = false ∧ (w0 == ([117, 115, 101, 114] : List UInt8).map byteI) = false ∧ (w0 == ([97, 108, 108, 111, 119] : List UInt8).map byteI) = false ∧ (w0 == ([100, 101, 110, 121] : List UInt8).map byteI) = false) :
    Calls Tryz.prog 54 #[.pointer (some ⟨R, 0, none⟩), .string s] w fun e w' => RdPost lo R M x 2 e w w' := by
  have hsp := split_calls hf hT hs hz
  have HL : Aside (lo ≤ w.heap.size ∧ RdAt lo w R M v role x ∧ TabAt T w ∧ x.us.length ≤ 16) := ⟨hlo, h, hT, few⟩
  have HS : Aside (splitI (bytesL s) 32 = w0 :: rest) := hspl
  have HK : Aside ((w0 == ([108, 105, 109, 105, 116] : List UInt8).map byteI) = false ∧ (w0 == ([117, 115, 101, 114] : List UInt8).map byteI) = false ∧ (w0 == ([97, 108, 108, 111, 119] : List UInt8).map byteI) = false ∧ (w0 == ([100, 101, 110, 121] : List UInt8).map byteI) = false) := hk
  clear hlo h hT few hz hspl hk
  go_enter Tryz.func54, Tryz.ntmps54
  go_wp2_with (go_at_call 94; (refine hsp.mono ?_; rintro e w1 ⟨B, cap, ws, rfl, hwl, hB, hBl, hcap, hcell, hb1⟩; obtain ⟨s0, ts, rfl, hs0, hts⟩ := ws_cons (hwl.trans HS.out); have c10 : w1.cell? ⟨B, 0, none⟩ = some (.string s0) := (hcell 0 s0 rfl).1; have hcap : ts.length + 1 ≤ cap := hcap; have HW : Aside (RdAt lo w1 R M v role x ∧ TabAt T w1 ∧ lo ≤ w1.heap.size ∧ (∀ i t, ts[i]? = some t → ∃ ad, some (⟨B, 1, none⟩ : Addr) = some ad ∧ w1.cell? (ad.add i) = some (.string t) ∧ t.size ≤ maxLen) ∧ role B = .no ∧ ts.map bytesL = rest ∧ Below lo w w1) := ⟨HL.out.2.1.below hb1, HL.out.2.2.1.below hb1, Nat.le_trans HL.out.1 hb1.size, tail1 hcell, Classical.byContradiction (fun hr => absurd (HL.out.2.1.lt B hr).2 (by omega)), hts, hb1.mono HL.out.1⟩; have e0 : (s0.toList == [108, 105, 109, 105, 116]) = false := by { rw [ln_lit, hs0]; exact HK.out.1 }; have e1 : (s0.toList == [117, 115, 101, 114]) = false := by { rw [ln_lit, hs0]; exact HK.out.2.1 }; have e2 : (s0.toList == [97, 108, 108, 111, 119]) = false := by { rw [ln_lit, hs0]; exact HK.out.2.2.1 }; have e3 : (s0.toList == [100, 101, 110, 121]) = false := by { rw [ln_lit, hs0]; exact HK.out.2.2.2 }; clear hcell hwl hts hs0 hb1))
  go_ret
  exact ⟨rfl, HW.out.2.2.2.2.2.2, fun e => by cases e⟩
end Go.Proofs.YtgfmfgombmpodaaGreatDoor

/- conf's reader: a line, by hand: rules. -/
namespace Go.Proofs.YtgfmfgombmpodaaGreatDoor
open Go.RowKit Pv
set_option linter.unusedVariables false
set_option maxHeartbeats 16000000 in
set_option maxRecDepth 1000000 in
theorem line_allow {T : Tab} (hf : Facts T) {lo : Nat} {w : World} {R M : Nat} {v : Value} {role : Nat → Role} {x : RSt} (h : RdAt lo w R M v role x) (hT : TabAt T w) (hlo : lo ≤ w.heap.size) (few : x.us.length ≤ 16) {s : ByteArray} (hs : s.size ≤ maxLen) (hz : Nat.ble (bytesL s).length 4000000000 = true) {w0 : List Int} {rest : List (List Int)} (hspl : splitI (bytesL s) 32 = w0 :: rest) (hk : (w0 == ([108, 105, 109, 105, 116] : List UInt8).map byteI) = false ∧ (w0 == ([117, 115, 101, 114] : List UInt8).map byteI) = false ∧ (w0 == ([97, 108, 108, 111, 119] : List UInt8).map byteI) = true ∧ True) {x' : RSt} {e' : Int} (hF : ruleP x true rest = some (x', e')) :
    Calls Tryz.prog 54 #[.pointer (some ⟨R, 0, none⟩), .string s] w fun e w' => RdPost lo R M x' e' e w w' := by
  have hsp := split_calls hf hT hs hz
  have HL : Aside (lo ≤ w.heap.size ∧ RdAt lo w R M v role x ∧ TabAt T w ∧ x.us.length ≤ 16) := ⟨hlo, h, hT, few⟩
  have HS : Aside (splitI (bytesL s) 32 = w0 :: rest) := hspl
  have HK : Aside ((w0 == ([108, 105, 109, 105, 116] : List UInt8).map byteI) = false ∧ (w0 == ([117, 115, 101, 114] : List UInt8).map byteI) = false ∧ (w0 == ([97, 108, 108, 111, 119] : List UInt8).map byteI) = true ∧ True) := hk
  clear hlo h hT few hz hspl hk
  have HF : Aside (ruleP x true rest = some (x', e')) := hF
  clear hF
  go_enter Tryz.func54, Tryz.ntmps54
  go_wp2_with (go_at_call 94; (refine hsp.mono ?_; rintro e w1 ⟨B, cap, ws, rfl, hwl, hB, hBl, hcap, hcell, hb1⟩; obtain ⟨s0, ts, rfl, hs0, hts⟩ := ws_cons (hwl.trans HS.out); have c10 : w1.cell? ⟨B, 0, none⟩ = some (.string s0) := (hcell 0 s0 rfl).1; have hcap : ts.length + 1 ≤ cap := hcap; have HW : Aside (RdAt lo w1 R M v role x ∧ TabAt T w1 ∧ lo ≤ w1.heap.size ∧ (∀ i t, ts[i]? = some t → ∃ ad, some (⟨B, 1, none⟩ : Addr) = some ad ∧ w1.cell? (ad.add i) = some (.string t) ∧ t.size ≤ maxLen) ∧ role B = .no ∧ ts.map bytesL = rest ∧ Below lo w w1) := ⟨HL.out.2.1.below hb1, HL.out.2.2.1.below hb1, Nat.le_trans HL.out.1 hb1.size, tail1 hcell, Classical.byContradiction (fun hr => absurd (HL.out.2.1.lt B hr).2 (by omega)), hts, hb1.mono HL.out.1⟩; have e0 : (s0.toList == [108, 105, 109, 105, 116]) = false := by { rw [ln_lit, hs0]; exact HK.out.1 }; have e1 : (s0.toList == [117, 115, 101, 114]) = false := by { rw [ln_lit, hs0]; exact HK.out.2.1 }; have e2 : (s0.toList == [97, 108, 108, 111, 119]) = true := by { rw [ln_lit, hs0]; exact HK.out.2.2.1 }; clear hcell hwl hts hs0 hb1))
  have hl : ruleP x true (ts.map bytesL) = some (x', e') := by rw [HW.out.2.2.2.2.2.1]; exact HF.out
  have hRz : RdAt lo w1.drew R M v role x := HW.out.1.keep (fun b _ => rfl) (Nat.le_refl _)
  have hTz : TabAt T w1.drew := fun p hp => HW.out.2.1 p hp
  by_cases hc1 : cap = 1
  · subst hc1
    have ht0 : ts.length = 0 := by omega
    have HR : Aside (Calls Tryz.prog 97 #[.pointer (some ⟨R, 0, none⟩), .bool true, .slice (some ⟨B, 0, none⟩) 0 0] w1.drew fun e w' => RdPost lo R M x' e' e w1.drew w') := rule_walk hf hRz hTz HW.out.2.2.1 HL.out.2.2.2 ht0 (tail0 ht0) hl
    clear hRz hTz hl
    go_region_with (go_at_call 97; (refine HR.out.mono ?_; rintro e w2 ⟨rfl, hb2, h2⟩; have H2 : Aside (_ ∧ _) := ⟨hb2, h2⟩; clear hb2 h2))
    all_goals
      go_wp2
      go_ret
      exact ⟨rfl, HW.out.2.2.2.2.2.2.trans ⟨H2.out.1.os, H2.out.1.tape, H2.out.1.output, H2.out.1.size, H2.out.1.block⟩, H2.out.2⟩
  · have ht1 : ∀ i t, ts[i]? = some t → ∃ ad, some (⟨B, 1, none⟩ : Addr) = some ad ∧ w1.drew.cell? (ad.add i) = some (.string t) ∧ t.size ≤ maxLen := HW.out.2.2.2.1
    have HR : Aside (Calls Tryz.prog 97 #[.pointer (some ⟨R, 0, none⟩), .bool true, .slice (some ⟨B, 1, none⟩) ts.length (cap - 1)] w1.drew fun e w' => RdPost lo R M x' e' e w1.drew w') := rule_walk hf hRz hTz HW.out.2.2.1 HL.out.2.2.2 rfl ht1 hl
    clear hRz hTz hl ht1
    go_region_with (go_at_call 97; (refine HR.out.mono ?_; rintro e w2 ⟨rfl, hb2, h2⟩; have H2 : Aside (_ ∧ _) := ⟨hb2, h2⟩; clear hb2 h2))
    all_goals
      go_wp2
      go_ret
      exact ⟨rfl, HW.out.2.2.2.2.2.2.trans ⟨H2.out.1.os, H2.out.1.tape, H2.out.1.output, H2.out.1.size, H2.out.1.block⟩, H2.out.2⟩
set_option maxHeartbeats 16000000 in
set_option maxRecDepth 1000000 in
theorem line_deny {T : Tab} (hf : Facts T) {lo : Nat} {w : World} {R M : Nat} {v : Value} {role : Nat → Role} {x : RSt} (h : RdAt lo w R M v role x) (hT : TabAt T w) (hlo : lo ≤ w.heap.size) (few : x.us.length ≤ 16) {s : ByteArray} (hs : s.size ≤ maxLen) (hz : Nat.ble (bytesL s).length 4000000000 = true) {w0 : List Int} {rest : List (List Int)} (hspl : splitI (bytesL s) 32 = w0 :: rest) (hk : (w0 == ([108, 105, 109, 105, 116] : List UInt8).map byteI) = false ∧ (w0 == ([117, 115, 101, 114] : List UInt8).map byteI) = false ∧ (w0 == ([97, 108, 108, 111, 119] : List UInt8).map byteI) = false ∧ (w0 == ([100, 101, 110, 121] : List UInt8).map byteI) = true) {x' : RSt} {e' : Int} (hF : ruleP x false rest = some (x', e')) :
    Calls Tryz.prog 54 #[.pointer (some ⟨R, 0, none⟩), .string s] w fun e w' => RdPost lo R M x' e' e w w' := by
  have hsp := split_calls hf hT hs hz
  have HL : Aside (lo ≤ w.heap.size ∧ RdAt lo w R M v role x ∧ TabAt T w ∧ x.us.length ≤ 16) := ⟨hlo, h, hT, few⟩
  have HS : Aside (splitI (bytesL s) 32 = w0 :: rest) := hspl
  have HK : Aside ((w0 == ([108, 105, 109, 105, 116] : List UInt8).map byteI) = false ∧ (w0 == ([117, 115, 101, 114] : List UInt8).map byteI) = false ∧ (w0 == ([97, 108, 108, 111, 119] : List UInt8).map byteI) = false ∧ (w0 == ([100, 101, 110, 121] : List UInt8).map byteI) = true) := hk
  clear hlo h hT few hz hspl hk
  have HF : Aside (ruleP x false rest = some (x', e')) := hF
  clear hF
  go_enter Tryz.func54, Tryz.ntmps54
  go_wp2_with (go_at_call 94; (refine hsp.mono ?_; rintro e w1 ⟨B, cap, ws, rfl, hwl, hB, hBl, hcap, hcell, hb1⟩; obtain ⟨s0, ts, rfl, hs0, hts⟩ := ws_cons (hwl.trans HS.out); have c10 : w1.cell? ⟨B, 0, none⟩ = some (.string s0) := (hcell 0 s0 rfl).1; have hcap : ts.length + 1 ≤ cap := hcap; have HW : Aside (RdAt lo w1 R M v role x ∧ TabAt T w1 ∧ lo ≤ w1.heap.size ∧ (∀ i t, ts[i]? = some t → ∃ ad, some (⟨B, 1, none⟩ : Addr) = some ad ∧ w1.cell? (ad.add i) = some (.string t) ∧ t.size ≤ maxLen) ∧ role B = .no ∧ ts.map bytesL = rest ∧ Below lo w w1) := ⟨HL.out.2.1.below hb1, HL.out.2.2.1.below hb1, Nat.le_trans HL.out.1 hb1.size, tail1 hcell, Classical.byContradiction (fun hr => absurd (HL.out.2.1.lt B hr).2 (by omega)), hts, hb1.mono HL.out.1⟩; have e0 : (s0.toList == [108, 105, 109, 105, 116]) = false := by { rw [ln_lit, hs0]; exact HK.out.1 }; have e1 : (s0.toList == [117, 115, 101, 114]) = false := by { rw [ln_lit, hs0]; exact HK.out.2.1 }; have e2 : (s0.toList == [97, 108, 108, 111, 119]) = false := by { rw [ln_lit, hs0]; exact HK.out.2.2.1 }; have e3 : (s0.toList == [100, 101, 110, 121]) = true := by { rw [ln_lit, hs0]; exact HK.out.2.2.2 }; clear hcell hwl hts hs0 hb1))
  have hl : ruleP x false (ts.map bytesL) = some (x', e') := by rw [HW.out.2.2.2.2.2.1]; exact HF.out
  have hRz : RdAt lo w1.drew R M v role x := HW.out.1.keep (fun b _ => rfl) (Nat.le_refl _)
  have hTz : TabAt T w1.drew := fun p hp => HW.out.2.1 p hp
  by_cases hc1 : cap = 1
  · subst hc1
    have ht0 : ts.length = 0 := by omega
    have HR : Aside (Calls Tryz.prog 97 #[.pointer (some ⟨R, 0, none⟩), .bool false, .slice (some ⟨B, 0, none⟩) 0 0] w1.drew fun e w' => RdPost lo R M x' e' e w1.drew w') := rule_walk hf hRz hTz HW.out.2.2.1 HL.out.2.2.2 ht0 (tail0 ht0) hl
    clear hRz hTz hl
    go_region_with (go_at_call 97; (refine HR.out.mono ?_; rintro e w2 ⟨rfl, hb2, h2⟩; have H2 : Aside (_ ∧ _) := ⟨hb2, h2⟩; clear hb2 h2))
    all_goals
      go_wp2
      go_ret
      exact ⟨rfl, HW.out.2.2.2.2.2.2.trans ⟨H2.out.1.os, H2.out.1.tape, H2.out.1.output, H2.out.1.size, H2.out.1.block⟩, H2.out.2⟩
  · have ht1 : ∀ i t, ts[i]? = some t → ∃ ad, some (⟨B, 1, none⟩ : Addr) = some ad ∧ w1.drew.cell? (ad.add i) = some (.string t) ∧ t.size ≤ maxLen := HW.out.2.2.2.1
    have HR : Aside (Calls Tryz.prog 97 #[.pointer (some ⟨R, 0, none⟩), .bool false, .slice (some ⟨B, 1, none⟩) ts.length (cap - 1)] w1.drew fun e w' => RdPost lo R M x' e' e w1.drew w') := rule_walk hf hRz hTz HW.out.2.2.1 HL.out.2.2.2 rfl ht1 hl
    clear hRz hTz hl ht1
    go_region_with (go_at_call 97; (refine HR.out.mono ?_; rintro e w2 ⟨rfl, hb2, h2⟩; have H2 : Aside (_ ∧ _) := ⟨hb2, h2⟩; clear hb2 h2))
    all_goals
      go_wp2
      go_ret
      exact ⟨rfl, HW.out.2.2.2.2.2.2.trans ⟨H2.out.1.os, H2.out.1.tape, H2.out.1.output, H2.out.1.size, H2.out.1.block⟩, H2.out.2⟩
end Go.Proofs.YtgfmfgombmpodaaGreatDoor

/- conf.Parse at no line: by hand. -/
namespace Go.Proofs.YtgfmfgombmpodaaGreatDoor
open Go.RowKit Go.Lib Pv
set_option linter.unusedVariables false
def confZ : Value := .agg #[.int .i64 16, .int .i64 100, .int .i64 65535, .int .i64 1000, .int .i64 1000000, .int .i64 1000, .int .i64 16384, .slice none 0 0]
theorem sizeC : sizeT Tryz.prog 51 = some 8 := by kernel_rfl
theorem agC : isAg Tryz.prog 51 = true := by kernel_rfl
theorem conf_ret {w : World} {R : Nat} {v0 v1 v2 v3 v4 v5 v6 v7 v : Value} {T : TypeId} {a : Act} {Z : Ending → World → Prop} (hd : a.defers = []) (h2 : a.tmps.getD 2 undef = .pointer (some ⟨R, 0, none⟩)) (h3 : a.tmps.getD 3 undef = v)
    (hR : w.heap[R]? = some (.cells #[v0, v1, v2, v3, v4, v5, v6, v7] T (0, 0)))
    (hZ : Z (.returned (.tuple #[.agg #[v0, v1, v2, v3, v4, v5, v6, v7], v])) w) : bodyPost Tryz.prog Tryz.f27 Z .ret a w := by
  have hl := run_loadVar_cells (P := Tryz.prog) (w := w) (t := 51) (ad := ⟨R, 0, none⟩) (us := [v0, v1, v2, v3, v4, v5, v6, v7]) sizeC rfl agC (fun j x hj => by
    show w.cell? ((⟨R, 0, none⟩ : Addr).add j) = _
    have e : (⟨R, 0, none⟩ : Addr).add j = ⟨R, j, none⟩ := by unfold Addr.add; simp; omega
    rw [e, Lib.cell_of_heap hR]
    rw [← hj]; simp)
  refine bodyPost_ret ?_ hd hZ
  rw [results_cell_tmp (p := 2) (u := 3) (ty := 51) rfl, h2, h3]
  simp [asAddr, hl]
theorem four (w : World) {W' : World} (o1 o2 o3 o4 : Obj) (h : (((w.alloc o1).alloc o2).alloc o3).alloc o4 = W') : Below w.heap.size w W' ∧ W'.heap[w.heap.size]? = some o1 := by
  have sz : ∀ (w : World) (o : Obj), (w.alloc o).heap.size = w.heap.size + 1 := fun w o => by simp
  rw [← h]
  refine ⟨((((Below.refl _ w).alloc (Nat.le_refl _) _).alloc (by rw [sz]; omega) _).alloc (by rw [sz, sz]; omega) _).alloc (by rw [sz, sz, sz]; omega) _, ?_⟩
  rw [Lib.alloc_old _ _ _ (by rw [sz, sz, sz]; omega), Lib.alloc_old _ _ _ (by rw [sz, sz]; omega), Lib.alloc_old _ _ _ (by rw [sz]; omega)]
  rw [show (w.alloc o1).heap = w.heap.push o1 from rfl]
  simp
def confW (w : World) : World := ((((w.alloc (Obj.cells #[Value.int IntKind.i64 0, Value.int IntKind.i64 0, Value.int IntKind.i64 0, Value.int IntKind.i64 0, Value.int IntKind.i64 0, Value.int IntKind.i64 0, Value.int IntKind.i64 0, Value.slice none 0 0] 51)).alloc (Obj.cells #[Value.int IntKind.i64 16, Value.int IntKind.i64 100, Value.int IntKind.i64 65535, Value.int IntKind.i64 1000, Value.int IntKind.i64 1000000, Value.int IntKind.i64 1000, Value.int IntKind.i64 16384, Value.slice none 0 0] 51)).alloc (Obj.map #[] 0)).alloc (Obj.cells #[Value.int IntKind.i64 16, Value.int IntKind.i64 100, Value.int IntKind.i64 65535, Value.int IntKind.i64 1000, Value.int IntKind.i64 1000000, Value.int IntKind.i64 1000, Value.int IntKind.i64 16384, Value.slice none 0 0, Value.map (some (w.heap.size + 1 + 1))] 110))
end Go.Proofs.YtgfmfgombmpodaaGreatDoor

/- conf.Parse at any lines: by hand. -/
namespace Go.Proofs.YtgfmfgombmpodaaGreatDoor
open Go.RowKit Pv
set_option linter.unusedVariables false
theorem line_walk {T : Tab} (hf : Facts T) {lo : Nat} {w : World} {R M : Nat} {v : Value} {role : Nat → Role} {x : RSt} (h : RdAt lo w R M v role x) (hT : TabAt T w) (hlo : lo ≤ w.heap.size) {s : ByteArray} (hs : s.size ≤ maxLen) {x' : RSt} {e' : Int} (hF : lineP x (bytesL s) = some (x', e')) :
    Calls Tryz.prog 54 #[.pointer (some ⟨R, 0, none⟩), .string s] w fun e w' => RdPost lo R M x' e' e w w' := by
  unfold lineP at hF
  cases hz : (Nat.ble (bytesL s).length 4000000000 && Nat.ble x.us.length 16) with
  | false => rw [hz] at hF; cases hF
  | true =>
  rw [hz, cond_true] at hF
  rw [Bool.and_eq_true] at hz
  have few := Nat.le_of_ble_eq_true hz.2
  cases hsp : splitI (bytesL s) 32 with
  | nil => exact absurd hsp (splitI_ne _ _)
  | cons w0 rest =>
  rw [hsp] at hF
  have hF : lineW x w0 rest = some (x', e') := hF
  unfold lineW at hF
  cases h1 : w0 == lbL with
  | true =>
    rw [h1] at hF
    obtain ⟨⟨y, b⟩, h2, h3⟩ := Option.map_eq_some_iff.1 hF
    obtain ⟨rfl, rfl⟩ := Prod.mk.inj h3
    exact line_lim hf h hT hlo few hs hz.1 hsp ⟨h1, trivial, trivial, trivial⟩ h2
  | false =>
  rw [h1, cond_false] at hF
  cases h2 : w0 == lbU with
  | true =>
    rw [h2] at hF
    exact line_user hf h hT hlo few hs hz.1 hsp ⟨h1, h2, trivial, trivial⟩ hF
  | false =>
  rw [h2, cond_false] at hF
  cases h3 : w0 == lbA with
  | true =>
    rw [h3] at hF
    exact line_allow hf h hT hlo few hs hz.1 hsp ⟨h1, h2, h3, trivial⟩ hF
  | false =>
  rw [h3, cond_false] at hF
  cases h4 : w0 == lbD with
  | true =>
    rw [h4] at hF
    exact line_deny hf h hT hlo few hs hz.1 hsp ⟨h1, h2, h3, h4⟩ hF
  | false =>
  rw [h4, cond_false] at hF
  injection hF with hF
  obtain ⟨rfl, rfl⟩ := Prod.mk.inj hF
  exact line_none hf h hT hlo few hs hz.1 hsp ⟨h1, h2, h3, h4⟩
def rst0 : RSt := ⟨16, 100, 65535, 1000, 1000000, 1000, 16384, [], []⟩
def skipL (s : List Int) : Bool := List.isEmpty s || (s.headD 0 == 35)
noncomputable def parseL : List (List Int) → RSt → Option (RSt × Int)
  | [], x => some (x, 0)
  | s :: r, x => cond (skipL s) (parseL r x) ((lineP x s).bind fun p => cond (decide (p.2 = 0)) (parseL r p.1) (some p))
theorem start_rd (w : World) : RdAt (w.heap.size + 1) (confW w) (w.heap.size + 1 + 1 + 1) (w.heap.size + 1 + 1) (.slice none 0 0) (fun b => if b = w.heap.size + 1 + 1 + 1 then .rdr else if b = w.heap.size + 1 + 1 then .map else .no) rst0 := by
  have sz : ∀ (w : World) (o : Obj), (w.alloc o).heap.size = w.heap.size + 1 := fun w o => by simp
  refine ⟨?_, if_pos rfl, ⟨#[], 0, ?_, fun e he => by simp at he, [], rfl, rfl⟩, ?_, ⟨[], World.ownsRow_nil _ _ _ _, fun b hb => (by cases hb), fun i u hu => (by simp [rst0] at hu)⟩, fun b hb => ?_, fun c hc => ?_⟩
  · unfold confW
    have := heap_alloc_new ((((w.alloc (Obj.cells #[Value.int IntKind.i64 0, Value.int IntKind.i64 0, Value.int IntKind.i64 0, Value.int IntKind.i64 0, Value.int IntKind.i64 0, Value.int IntKind.i64 0, Value.int IntKind.i64 0, Value.slice none 0 0] 51)).alloc (Obj.cells #[Value.int IntKind.i64 16, Value.int IntKind.i64 100, Value.int IntKind.i64 65535, Value.int IntKind.i64 1000, Value.int IntKind.i64 1000000, Value.int IntKind.i64 1000, Value.int IntKind.i64 16384, Value.slice none 0 0] 51)).alloc (Obj.map #[] 0))) (Obj.cells #[Value.int IntKind.i64 16, Value.int IntKind.i64 100, Value.int IntKind.i64 65535, Value.int IntKind.i64 1000, Value.int IntKind.i64 1000000, Value.int IntKind.i64 1000, Value.int IntKind.i64 16384, Value.slice none 0 0, Value.map (some (w.heap.size + 1 + 1))] 110)
    rw [sz, sz, sz] at this
    exact this
  · unfold confW
    rw [heap_alloc_old _ _ (by rw [sz, sz, sz]; omega)]
    have := heap_alloc_new ((w.alloc (Obj.cells #[Value.int IntKind.i64 0, Value.int IntKind.i64 0, Value.int IntKind.i64 0, Value.int IntKind.i64 0, Value.int IntKind.i64 0, Value.int IntKind.i64 0, Value.int IntKind.i64 0, Value.slice none 0 0] 51)).alloc (Obj.cells #[Value.int IntKind.i64 16, Value.int IntKind.i64 100, Value.int IntKind.i64 65535, Value.int IntKind.i64 1000, Value.int IntKind.i64 1000000, Value.int IntKind.i64 1000, Value.int IntKind.i64 16384, Value.slice none 0 0] 51)) (Obj.map #[] 0)
    rw [sz, sz] at this
    exact this
  · show (if w.heap.size + 1 + 1 = w.heap.size + 1 + 1 + 1 then Role.rdr else if w.heap.size + 1 + 1 = w.heap.size + 1 + 1 then .map else .no) = .map
    rw [if_neg (by omega), if_pos rfl]
  · have hs : (confW w).heap.size = w.heap.size + 1 + 1 + 1 + 1 := by
      unfold confW
      rw [sz, sz, sz, sz]
    rw [hs]
    by_cases h1 : b = w.heap.size + 1 + 1 + 1
    · omega
    · by_cases h2 : b = w.heap.size + 1 + 1
      · omega
      · exfalso
        apply hb
        show (if b = _ then Role.rdr else if b = _ then .map else .no) = .no
        rw [if_neg h1, if_neg h2]
  · simp [RSt.ints, rst0] at hc
    rcases hc with rfl | rfl | rfl | rfl | rfl | rfl | rfl <;> decide
theorem cells8 {w : World} {b : Nat} {v0 v1 v2 v3 v4 v5 v6 v7 : Value} {T : TypeId} (h : w.heap[b]? = some (.cells #[v0, v1, v2, v3, v4, v5, v6, v7] T (0, 0))) : w.cell? ⟨b, 0, none⟩ = some v0 ∧ w.cell? ⟨b, 1, none⟩ = some v1 ∧ w.cell? ⟨b, 2, none⟩ = some v2 ∧ w.cell? ⟨b, 3, none⟩ = some v3 ∧ w.cell? ⟨b, 4, none⟩ = some v4 ∧ w.cell? ⟨b, 5, none⟩ = some v5 ∧ w.cell? ⟨b, 6, none⟩ = some v6 ∧ w.cell? ⟨b, 7, none⟩ = some v7 ∧
    w.frozen? ⟨b, 0, none⟩ = false ∧ w.frozen? ⟨b, 1, none⟩ = false ∧ w.frozen? ⟨b, 2, none⟩ = false ∧ w.frozen? ⟨b, 3, none⟩ = false ∧ w.frozen? ⟨b, 4, none⟩ = false ∧ w.frozen? ⟨b, 5, none⟩ = false ∧ w.frozen? ⟨b, 6, none⟩ = false ∧ w.frozen? ⟨b, 7, none⟩ = false := by
  refine ⟨?_, ?_, ?_, ?_, ?_, ?_, ?_, ?_, ?_, ?_, ?_, ?_, ?_, ?_, ?_, ?_⟩ <;> first | (rw [cell_at h]; rfl) | simp [World.frozen?, h]
def ParPost (w : World) (xf : RSt) (ef : Int) (e : Ending) (w' : World) : Prop := Below w.heap.size w w' ∧ (ef ≠ 0 → e = .returned (.tuple #[.agg #[.int .i64 0, .int .i64 0, .int .i64 0, .int .i64 0, .int .i64 0, .int .i64 0, .int .i64 0, .slice none 0 0], .int .i64 ef])) ∧
  (ef = 0 → ∃ v role, e = .returned (.tuple #[.agg #[.int .i64 xf.c0, .int .i64 xf.c1, .int .i64 xf.c2, .int .i64 xf.c3, .int .i64 xf.c4, .int .i64 xf.c5, .int .i64 xf.c6, v], .int .i64 0]) ∧ RdAt (w.heap.size + 1) w' (w.heap.size + 1 + 1 + 1) (w.heap.size + 1 + 1) v role xf)
set_option maxHeartbeats 4000000 in
theorem set8 {w W : World} {b : Nat} {u0 u1 u2 u3 u4 u5 u6 u7 v0 v1 v2 v3 v4 v5 v6 v7 : Value} {T : TypeId} (h : w.heap[b]? = some (.cells #[u0, u1, u2, u3, u4, u5, u6, u7] T (0, 0))) (hW : ((((((((w.setCell ⟨b, 0, none⟩ v0).setCell ⟨b, 1, none⟩ v1).setCell ⟨b, 2, none⟩ v2).setCell ⟨b, 3, none⟩ v3).setCell ⟨b, 4, none⟩ v4).setCell ⟨b, 5, none⟩ v5).setCell ⟨b, 6, none⟩ v6).setCell ⟨b, 7, none⟩ v7) = W) :
    W.heap[b]? = some (.cells #[v0, v1, v2, v3, v4, v5, v6, v7] T (0, 0)) ∧ (∀ k, k ≠ b → W.heap[k]? = w.heap[k]?) ∧ W.heap.size = w.heap.size ∧ W.os = w.os ∧ W.tape = w.tape ∧ W.output = w.output := by
  have hsz : ∀ (w : World) (a : Addr) (u : Value), (w.setCell a u).heap.size = w.heap.size := fun w a u => by simp [World.setCell]
  have hos : ∀ (w : World) (a : Addr) (u : Value), (w.setCell a u).os = w.os ∧ (w.setCell a u).tape = w.tape ∧ (w.setCell a u).output = w.output := fun w a u => ⟨rfl, rfl, rfl⟩
  subst hW
  refine ⟨?_, fun k hk => ?_, by rw [hsz, hsz, hsz, hsz, hsz, hsz, hsz, hsz], by rw [(hos _ _ _).1, (hos _ _ _).1, (hos _ _ _).1, (hos _ _ _).1, (hos _ _ _).1, (hos _ _ _).1, (hos _ _ _).1, (hos _ _ _).1], by rw [(hos _ _ _).2.1, (hos _ _ _).2.1, (hos _ _ _).2.1, (hos _ _ _).2.1, (hos _ _ _).2.1, (hos _ _ _).2.1, (hos _ _ _).2.1, (hos _ _ _).2.1], by rw [(hos _ _ _).2.2, (hos _ _ _).2.2, (hos _ _ _).2.2, (hos _ _ _).2.2, (hos _ _ _).2.2, (hos _ _ _).2.2, (hos _ _ _).2.2, (hos _ _ _).2.2]⟩
  · rw [set_heap (set_heap (set_heap (set_heap (set_heap (set_heap (set_heap (set_heap h)))))))]
    rfl
  · rw [setCell_heap, if_neg hk, setCell_heap, if_neg hk, setCell_heap, if_neg hk, setCell_heap, if_neg hk, setCell_heap, if_neg hk, setCell_heap, if_neg hk, setCell_heap, if_neg hk, setCell_heap, if_neg hk]
theorem below_set {w wr W : World} (hb : Below w.heap.size w wr) (h1 : ∀ k, k ≠ w.heap.size → W.heap[k]? = wr.heap[k]?) (h2 : W.heap.size = wr.heap.size) (h3 : W.os = wr.os ∧ W.tape = wr.tape ∧ W.output = wr.output) : Below w.heap.size w W :=
  ⟨h3.1.trans hb.os, h3.2.1.trans hb.tape, h3.2.2.trans hb.output, by rw [h2]; exact hb.size, fun k hk => (h1 k (by omega)).trans (hb.block k hk)⟩
theorem rd_slice {lo : Nat} {w : World} {R M : Nat} {v : Value} {role : Nat → Role} {x : RSt} (h : RdAt lo w R M v role x) : ∃ a n c, v = .slice a n c := by
  obtain ⟨xs, u1, _⟩ := h.hU
  rcases u1.2 with ⟨rfl, _⟩ | ⟨g, cap, cur, rfl, _⟩
  · exact ⟨_, _, _, rfl⟩
  · exact ⟨_, _, _, rfl⟩
theorem par_cell {w w' : World} {a : Addr} {u : Value} (h : w.cell? a = some u) (hb : Below w.heap.size w w') : w'.cell? a = some u := (hb.cell (cell_lt h)).trans h
set_option maxHeartbeats 16000000 in
set_option maxRecDepth 1000000 in
theorem par_walk {T : Tab} (hf : Facts T) {w : World} (hT : TabAt T w) {a : Option Addr} {n c : Nat} {ls : List ByteArray} (hn : ls.length = n) (hsm : n ≤ 1000000) (hls : ∀ i s, ls[i]? = some s → ∃ ad, a = some ad ∧ w.cell? (ad.add i) = some (.string s) ∧ s.size ≤ maxLen) {xf : RSt} {ef : Int} (hF : parseL (ls.map bytesL) rst0 = some (xf, ef)) :
    Calls Tryz.prog 27 #[.slice a n c] w fun e w' => ParPost w xf ef e w' := by
  have hs0 := start_rd w
  have HL : Aside (TabAt T w ∧ ls.length = n ∧ (∀ i s, ls[i]? = some s → ∃ ad, a = some ad ∧ w.cell? (ad.add i) = some (.string s) ∧ s.size ≤ maxLen) ∧ parseL (ls.map bytesL) rst0 = some (xf, ef)) := ⟨hT, hn, hls, hF⟩
  have HS0 : Aside (RdAt (w.heap.size + 1) (confW w) (w.heap.size + 1 + 1 + 1) (w.heap.size + 1 + 1) (.slice none 0 0) (fun b => if b = w.heap.size + 1 + 1 + 1 then .rdr else if b = w.heap.size + 1 + 1 then .map else .no) rst0) := hs0
  clear hT hn hls hF hs0
  go_enter Tryz.func27, Tryz.ntmps27
  have hmm := @run_makeMap Tryz.prog
  go_wp2
  go_loopw [3, 14] (fun u vi wr => u = .int .i64 0 ∧ ∃ k : Nat, vi = .int .i64 k ∧ k ≤ n ∧ Aside (∃ x v role, RdAt (w.heap.size + 1) wr (w.heap.size + 1 + 1 + 1) (w.heap.size + 1 + 1) v role x ∧ parseL ((ls.drop k).map bytesL) x = some (xf, ef)) ∧ Aside (wr.heap[w.heap.size]? = some (Obj.cells #[Value.int IntKind.i64 0, Value.int IntKind.i64 0, Value.int IntKind.i64 0, Value.int IntKind.i64 0, Value.int IntKind.i64 0, Value.int IntKind.i64 0, Value.int IntKind.i64 0, Value.slice none 0 0] 51 (0, 0))) ∧ Below w.heap.size w wr) (fun _ vi _ => n - (intOf vi).toNat)
  case atStart =>
    refine ⟨rfl, 0, rfl, by omega, ⟨rst0, _, _, HS0.out, HL.out.2.2.2⟩, ?_, ?_⟩
    · exact (four w _ _ _ _ rfl).2
    · exact (four w _ _ _ _ rfl).1
  case round =>
    obtain ⟨rfl, k, rfl, hk, HX, HZ, hb⟩ := hrel
    have hwr : w.heap.size ≤ wr.heap.size := hb.size
    by_cases hlt : k < n
    · obtain ⟨x, v, role, hrd, hp⟩ := HX.out
      have hkl : k < ls.length := by rw [HL.out.2.1]; exact hlt
      obtain ⟨s, hsk⟩ : ∃ s, ls[k]? = some s := ⟨_, List.getElem?_eq_getElem hkl⟩
      obtain ⟨ad, rfl, hc0, hz⟩ := HL.out.2.2.1 k s hsk
      have hcr := par_cell hc0 hb
      rw [List.drop_eq_getElem_cons hkl, List.map_cons, show ls[k] = s from by rw [List.getElem?_eq_getElem hkl] at hsk; injection hsk] at hp
      have hp : cond (skipL (bytesL s)) (parseL ((ls.drop (k + 1)).map bytesL) x) ((lineP x (bytesL s)).bind fun p => cond (decide (p.2 = 0)) (parseL ((ls.drop (k + 1)).map bytesL) p.1) (some p)) = some (xf, ef) := hp
      clear HX hsk hc0
      have hne : ∀ h0 : 0 < s.size, bytesL s = (((s[0]'h0).toNat : Nat) : Int) :: (bytesL s).tail := fun h0 => by
        have h1 : s.data.toList.length = s.size := by simp
        have h2 : s.data.toList[0]? = some (s[0]'h0) := Lib.data_getElem? s 0 h0
        show s.data.toList.map byteI = _
        cases hq : s.data.toList with
        | nil => rw [hq] at h2; cases h2
        | cons y r =>
          rw [hq] at h2
          injection h2 with h2
          show byteI y :: r.map byteI = _
          rw [← h2]
          show _ = _ :: (s.data.toList.map byteI).tail
          rw [hq]
          rfl
      cases hsk : skipL (bytesL s) with
      | true =>
        rw [hsk, cond_true] at hp
        have HN : Aside (∃ x v role, RdAt (w.heap.size + 1) wr (w.heap.size + 1 + 1 + 1) (w.heap.size + 1 + 1) v role x ∧ parseL ((ls.drop (k + 1)).map bytesL) x = some (xf, ef)) := ⟨x, v, role, hrd, hp⟩
        clear hrd hp
        by_cases h0 : 0 < s.size
        · have hc : (((s[0]'h0).toNat : Nat) : Int) = 35 := by
            unfold skipL at hsk
            rw [hne h0] at hsk
            simpa using hsk
          have hnn : ¬ s.toList = [] := fun e => by
            have := (bytes_nil s).2 e
            rw [hne h0] at this
            cases this
          clear hsk hne
          go_wp2
          all_goals exact ⟨⟨by first | rfl | trivial, k + 1, by simp, by omega, HN, HZ, hb⟩, by simp [intOf]; omega⟩
        · have hnn : s.toList = [] := (bytes_nil s).1 (List.eq_nil_of_length_eq_zero (by rw [bytes_len]; omega))
          clear hsk hne
          go_wp2
          all_goals exact ⟨⟨by first | rfl | trivial, k + 1, by simp, by omega, HN, HZ, hb⟩, by simp [intOf]; omega⟩
      | false =>
        rw [hsk, cond_false] at hp
        obtain ⟨⟨x1, e1⟩, hl1, hp⟩ := Option.bind_eq_some_iff.1 hp
        have hnn : ¬ s.toList = [] := fun e => by
          have := (bytes_nil s).2 e
          rw [this] at hsk
          cases hsk
        have h0 : 0 < s.size := by
          rcases Nat.lt_or_ge 0 s.size with h | h
          · exact h
          · exact absurd ((bytes_nil s).1 (List.eq_nil_of_length_eq_zero (by rw [bytes_len]; omega))) hnn
        have hc : ¬ (((s[0]'h0).toNat : Nat) : Int) = 35 := fun e => by
          unfold skipL at hsk
          rw [hne h0, e] at hsk
          cases hsk
        have hTr : TabAt T wr := HL.out.1.below hb
        have hlw : w.heap.size + 1 ≤ wr.heap.size := (Array.getElem?_eq_some_iff.1 HZ.out).1
        have hlk := line_walk hf hrd hTr hlw hz hl1
        have hzb : ∀ w2, Below (w.heap.size + 1) wr w2 → w2.heap[w.heap.size]? = _ := fun w2 h => (h.block w.heap.size (by omega)).trans HZ.out
        have HN : Aside (_ ∧ _) := ⟨hp, hzb⟩
        clear hrd hp hsk hne hTr hlw hl1 hzb
        by_cases he : e1 = 0
        · subst he
          go_wp2_with (go_at_call 54; (refine hlk.mono ?_; rintro e w2 ⟨rfl, hb2, h2⟩; have H2 : Aside (_ ∧ _) := ⟨hb2, h2⟩; clear hb2 h2))
          all_goals first
            | (exfalso; rename_i hor; rcases hor with hor | hor; exact hnn (List.isEmpty_iff.1 hor); exact hc (by simpa using hor))
            | (obtain ⟨v', role', hrd'⟩ := H2.out.2 (by first | rfl | trivial)
               exact ⟨⟨by first | rfl | trivial, k + 1, by simp, by omega, ⟨x1, v', role', hrd', HN.out.1⟩, HN.out.2 _ H2.out.1, hb.trans (H2.out.1.mono (by omega))⟩, by simp [intOf]; omega⟩)
        · have hpe : some (x1, e1) = some (xf, ef) := by
            have := HN.out.1
            rw [decide_eq_false he] at this
            exact this
          injection hpe with hpe
          obtain ⟨rfl, rfl⟩ := Prod.mk.inj hpe
          go_wp2_with (go_at_call 54; (refine hlk.mono ?_; rintro e w2 ⟨rfl, hb2, h2⟩; obtain ⟨z0, z1, z2, z3, z4, z5, z6, z7, f0, f1, f2, f3, f4, f5, f6, f7⟩ := cells8 (HN.out.2 _ hb2); have H2 : Aside (_ ∧ _) := ⟨hb2, h2⟩; clear hb2 h2))
          all_goals first
            | (exfalso; rename_i hor; rcases hor with hor | hor; exact hnn (List.isEmpty_iff.1 hor); exact hc (by simpa using hor))
            | skip
          all_goals
            generalize hW : World.setCell _ _ _ = W8
            obtain ⟨y1, y2, y3, y4⟩ := set8 (HN.out.2 _ H2.out.1) hW
            exact conf_ret rfl rfl rfl y1 ⟨below_set (hb.trans (H2.out.1.mono (by omega))) y2 y3 y4, fun _ => rfl, fun h => absurd h he⟩
    · obtain rfl : k = n := by omega
      obtain ⟨x, v, role, hrd, hp⟩ := HX.out
      rw [List.drop_eq_nil_of_le (by rw [HL.out.2.1]; exact Nat.le_refl _)] at hp
      have hp : some (x, (0 : Int)) = some (xf, ef) := hp
      injection hp with hp
      obtain ⟨rfl, rfl⟩ := Prod.mk.inj hp
      obtain ⟨z0, z1, z2, z3, z4, z5, z6, z7, f0, f1, f2, f3, f4, f5, f6, f7⟩ := cells8 HZ.out
      obtain ⟨va, vn, vc, rfl⟩ := rd_slice hrd
      obtain ⟨q0, q1, q2, q3, q4, q5, q6, q7, q8, _⟩ := cells9 hrd.hR
      have HR : Aside (RdAt (w.heap.size + 1) wr (w.heap.size + 1 + 1 + 1) (w.heap.size + 1 + 1) (.slice va vn vc) role x) := hrd
      clear hrd
      go_wp2
      generalize hW : World.setCell _ _ _ = W8
      obtain ⟨y1, y2, y3, y4⟩ := set8 HZ.out hW
      refine conf_ret rfl rfl rfl y1 ⟨below_set hb y2 y3 y4, fun h => absurd rfl h, fun _ => ⟨_, role, rfl, HR.out.keep (fun b hr => y2 b (by have := (HR.out.lt b hr).1; omega)) (by rw [y3]; exact Nat.le_refl _)⟩⟩
end Go.Proofs.YtgfmfgombmpodaaGreatDoor

/- conf.Parse at any lines: its contract. -/
namespace Go.Proofs.YtgfmfgombmpodaaGreatDoor
open Go.RowKit Pv
set_option linter.unusedVariables false
theorem strs_any {P : Nat → ByteArray → Prop} : ∀ (l : List (List Int)), (∀ (i : Nat) (y : List Int), l[i]? = some y → ∃ t : ByteArray, P i t ∧ bytesL t = y) → ∃ ws : List ByteArray, ws.map bytesL = l ∧ ∀ (i : Nat) (t : ByteArray), ws[i]? = some t → P i t := by
  intro l h
  have key : ∀ k, k ≤ l.length → ∃ ws : List ByteArray, ws.map bytesL = l.take k ∧ ∀ (i : Nat) (t : ByteArray), ws[i]? = some t → P i t := by
    intro k
    induction k with
    | zero => exact fun _ => ⟨[], rfl, fun i t ht => by simp at ht⟩
    | succ k ih =>
      intro hk
      obtain ⟨ws, h1, h2⟩ := ih (by omega)
      have hget : l[k]? = some l[k] := List.getElem?_eq_getElem (by omega)
      obtain ⟨t, ht, ht2⟩ := h k _ hget
      have hl : ws.length = k := by
        have := congrArg List.length h1
        rw [List.length_map, List.length_take] at this
        omega
      refine ⟨ws ++ [t], ?_, fun i u hu => ?_⟩
      · rw [List.map_append, h1, List.take_add_one, hget, ← ht2]; rfl
      · rcases Nat.lt_or_ge i ws.length with hi | hi
        · rw [List.getElem?_append_left hi] at hu
          exact h2 i u hu
        · rw [List.getElem?_append_right hi] at hu
          have hi2 : i = k := by
            have := (List.getElem?_eq_some_iff.1 hu).1
            simp at this
            omega
          subst hi2
          rw [hl, Nat.sub_self] at hu
          injection hu with hu
          subst hu
          exact ht
  obtain ⟨ws, h1, h2⟩ := key l.length (Nat.le_refl _)
  exact ⟨ws, by rw [h1, List.take_length], h2⟩
theorem row_rep {lo : Nat} {w : World} {role : Nat → Role} {ro : Role} {E : TypeId} {e : Ty} {l : List e.D} {v : Value} {C : Com} (h : RowAt lo w role ro E e l v) (he : flatT e = true) (hC : ∀ b o, v.ownBlock = some b → o < List.length l * e.size → C b o) : RepD w C (.sl e) l [v] := by
  obtain ⟨xs, h1, h2, h3⟩ := h
  rcases h1.2 with ⟨rfl, hn⟩ | ⟨g, cap, cur, rfl, hb, hg, hlc, hcm, hcs, ht⟩
  · refine ⟨none, 0, 0, rfl, hn, Nat.le_refl _, by unfold maxLen; omega, fun i x hx => ?_⟩
    have hx : l[i]? = some x := hx
    have := (List.getElem?_eq_some_iff.1 hx).1
    omega
  · refine ⟨_, _, _, rfl, rfl, hlc, hcm, fun i x hx => ?_⟩
    have hx : l[i]? = some x := hx
    have hi := (List.getElem?_eq_some_iff.1 hx).1
    have hr := h3 i x hx
    refine ⟨⟨g, 0, none⟩, (xs.drop (i * e.size)).take e.size, rfl, RepD.len hr, fun j u hj => ?_, repD_flat he hr⟩
    have hjl : j < e.size := by
      have h4 := (List.getElem?_eq_some_iff.1 hj).1
      have h5 := RepD.len hr
      omega
    rw [List.getElem?_take, if_pos hjl, List.getElem?_drop] at hj
    refine ⟨h1.cells (g := g) rfl _ u hj, ?_⟩
    refine hC g _ rfl ?_
    have h6 : (i + 1) * e.size ≤ List.length l * e.size := Nat.mul_le_mul_right _ hi
    rw [Nat.add_mul, Nat.one_mul] at h6
    show 0 + (i * e.size + j) < _
    omega
theorem user_rep {lo : Nat} {w : World} {role : Nat → Role} {i : Nat} {u : UserD} {cs : List Value} {C : Com} (h : UserAt lo w role i u cs) (hC : ∀ b o, role b = .flat ∨ role b = .row i → C b o) : RepD w C userT u cs := by
  obtain ⟨nm, vs, vd, vr, rfl, h2, h3, h4, h5, h6, h7⟩ := h
  have k5 := row_rep (C := C) h5 rfl fun b o hb _ => hC b o (.inl (by obtain ⟨_, _, q, _⟩ := h5; exact q b hb))
  have k6 := row_rep (C := C) h6 rfl fun b o hb _ => hC b o (.inl (by obtain ⟨_, _, q, _⟩ := h6; exact q b hb))
  have k7 := row_rep (C := C) h7 rfl fun b o hb _ => hC b o (.inr (by obtain ⟨_, _, q, _⟩ := h7; exact q b hb))
  exact ⟨[_], _, rfl, ⟨nm, rfl, h2, h3⟩, [_, _], _, rfl, ⟨[_], [_], rfl, k5, k6⟩, [_], _, rfl, ⟨rfl, h4⟩, [_], _, rfl, rfl, k7⟩
def F_conf_Parse_sig : Sig := ⟨[.v false [.d (.sl .str)]], [(true, [.d (.int .i64), .d (.int .i64), .d (.int .i64), .d (.int .i64), .d (.int .i64), .d (.int .i64), .d (.int .i64), .own 63 (.pr .str (.pr (.pr (.sl (.int .u8)) (.sl (.int .u8))) (.pr (.int .i64) (.pr (.cpx .f64) (.sl (.pr .bool (.pr (.int .i64) (.pr .str (.pr (.pr .str (.int .i64)) (.pr (.int .i64) (.int .i64)))))))))))]), (false, [.d (.int .i64)])]⟩
abbrev ConfR := Int × Int × Int × Int × Int × Int × Int × List UserD × Int
noncomputable def F_conf_Parse (l : List (List Int)) : Option ConfR := cond (Nat.ble l.length 1000000) ((parseL l rst0).bind fun p => cond (decide (p.2 = 0)) (some (p.1.c0, p.1.c1, p.1.c2, p.1.c3, p.1.c4, p.1.c5, p.1.c6, p.1.us, 0)) (cond (decide (0 < p.2) && decide (p.2 < 10)) (some (0, 0, 0, 0, 0, 0, 0, [], p.2)) none)) none
theorem F_conf_Parse_sound {T : Tab} (h_maxlen : has_maxlen T) (h_pow10 : tab_pow10 ∈ T) (h_errs : has_errs T) : SoundFn Tryz.prog T 27 F_conf_Parse_sig ⟨F_conf_Parse⟩ := by
  refine sound_of rfl fun F g O xs ls y tmf w args hT hw hlim hls happ hsz hr => ?_
  obtain ⟨(l : List (List Int)), xs', rfl, h2⟩ := appF_inv_c (ts := []) happ
  obtain ⟨rfl, h3⟩ := appF_inv_n h2
  have hls' : some [Leaf.d (.sl .str) l] = some ls := hls
  injection hls' with hls'
  subst hls'
  obtain ⟨a, n, c, e0, e1, e2, e3, e4⟩ := rel_leaf.1 (hr 0)
  have e0 : args.getD 0 undef = .slice a n c := by injection e0
  rw [args_1 hsz, e0]
  have h3 : F_conf_Parse l = some y := h3
  unfold F_conf_Parse at h3
  cases hb : Nat.ble l.length 1000000 with
  | false => rw [hb] at h3; cases h3
  | true =>
    rw [hb, cond_true] at h3
    obtain ⟨⟨xf, ef⟩, hp, h3⟩ := Option.bind_eq_some_iff.1 h3
    have hble := Nat.le_of_ble_eq_true hb
    have e1 : l.length = n := e1
    obtain ⟨bs, hbs, hbc⟩ := strs_any (P := fun i t => ∃ ad, a = some ad ∧ w.cell? (ad.add i) = some (.string t) ∧ t.size ≤ maxLen) l fun i s hs => by
      obtain ⟨ad, us, q1, q2, q3, t, q4, q5, q6⟩ := e4 i s hs
      refine ⟨t, ⟨ad, q1, ?_, q6⟩, q5⟩
      have := (q3 0 (.string t) (by rw [q4]; rfl)).1
      rw [show (Ty.str).size = 1 from rfl, Nat.mul_one, Nat.add_zero] at this
      exact this
    have hbl : bs.length = n := by rw [← e1, ← hbs, List.length_map]
    refine (par_walk ⟨h_pow10, h_errs, h_maxlen⟩ hT hbl (by omega) hbc (by rw [hbs]; exact hp)).mono ?_
    rintro e w' ⟨hbel, hno, hyes⟩
    by_cases he : ef = 0
    · subst he
      obtain ⟨v, role, rfl, hrd⟩ := hyes rfl
      have hy : ((xf.c0, xf.c1, xf.c2, xf.c3, xf.c4, xf.c5, xf.c6, xf.us, 0) : ConfR) = y := by
        have h3 : some _ = some y := h3
        injection h3
      subst hy
      obtain ⟨xs, u1, u2, u3⟩ := hrd.hU
      have hwfs := hrd.wf
      have ti : ∀ {C : Com} {bk : Tok → Option Nat} {x : Int}, (Lit.int .i64 x).wf = true → RepL F ⟨C, bk, g.ρ, fun _ _ => []⟩ w' (exitO F_conf_Parse_sig) (.d (.int .i64) x) [.int .i64 x] := fun h => ⟨rfl, h⟩
      have h70 : ∀ {k : Tok} {v0 : Option Nat} {b : Nat}, (match tokEq k (.hd 0 7) with | true => v0 | false => none) = some b → k = .hd 0 7 ∧ v0 = some b := fun {k v0 b} hk => by
        cases hq : tokEq k (.hd 0 7) with
        | false => rw [hq] at hk; cases hk
        | true =>
          rw [hq] at hk
          refine ⟨?_, hk⟩
          cases k with
          | hd d j =>
            have : (Nat.beq d 0 && Nat.beq j 7) = true := hq
            simp only [Bool.and_eq_true] at this
            rw [Nat.eq_of_beq_eq_true this.1, Nat.eq_of_beq_eq_true this.2]
          | zero => cases hq
          | op _ _ => cases hq
      have fin : ∀ (C' : Com) (bk : Option Nat), (∀ b o, b < w.heap.size → (C' b o ↔ g.C b o)) → (∀ b o, C' b o → b < w'.heap.size) → (∀ b, bk = some b → w.heap.size ≤ b ∧ b < w'.heap.size) → RepL F ⟨C', fun k => match tokEq k (.hd 0 7) with | true => bk | false => none, g.ρ, fun _ _ => []⟩ w' (exitO F_conf_Parse_sig) (.own (.hd 0 7) 63 userT xf.us) [v] →
          ∃ us os C' blk', Ending.returned (.tuple #[.agg #[.int .i64 xf.c0, .int .i64 xf.c1, .int .i64 xf.c2, .int .i64 xf.c3, .int .i64 xf.c4, .int .i64 xf.c5, .int .i64 xf.c6, v], .int .i64 0]) = .returned (retV us) ∧ us.length = F_conf_Parse_sig.rs.length ∧ mkLs (Tok.hd 0) F_conf_Parse_sig.outs 0 (unpackD (F_conf_Parse_sig.outs.map LT.ty) ((xf.c0, xf.c1, xf.c2, xf.c3, xf.c4, xf.c5, xf.c6, xf.us, 0) : ConfR)) = some os ∧ Below w.heap.size w w' ∧
            (∀ b o, b < w.heap.size → (C' b o ↔ g.C b o)) ∧ (∀ b o, C' b o → b < w'.heap.size) ∧ blk' .zero = none ∧ (∀ k b, blk' k = some b → w.heap.size ≤ b ∧ b < w'.heap.size) ∧ (∀ k k' b, blk' k = some b → blk' k' = some b → k = k') ∧
            ∀ i, i < F_conf_Parse_sig.rs.length → RelP F ⟨C', blk', g.ρ, fun _ _ => []⟩ w' (exitO F_conf_Parse_sig) tmf (us.getD i undef) (resAt F_conf_Parse_sig.rs os i) := fun C' bk h1 h2 h3 h4 => by
        refine ⟨[.agg #[.int .i64 xf.c0, .int .i64 xf.c1, .int .i64 xf.c2, .int .i64 xf.c3, .int .i64 xf.c4, .int .i64 xf.c5, .int .i64 xf.c6, v], .int .i64 0], _, C', fun k => match tokEq k (.hd 0 7) with | true => bk | false => none, rfl, rfl, rfl, hbel, h1, h2, rfl, fun k b hk => h3 b (h70 hk).2, fun k k' b hk hk' => (h70 hk).1.trans (h70 hk').1.symm, fun i hi => ?_⟩
        match i, hi with
        | 0, _ =>
          refine ⟨[.int .i64 xf.c0, .int .i64 xf.c1, .int .i64 xf.c2, .int .i64 xf.c3, .int .i64 xf.c4, .int .i64 xf.c5, .int .i64 xf.c6, v], ?_, rfl⟩
          have k0 : (Lit.int .i64 xf.c0).wf = true := hwfs _ (by simp [RSt.ints])
          have k1 : (Lit.int .i64 xf.c1).wf = true := hwfs _ (by simp [RSt.ints])
          have k2 : (Lit.int .i64 xf.c2).wf = true := hwfs _ (by simp [RSt.ints])
          have k3 : (Lit.int .i64 xf.c3).wf = true := hwfs _ (by simp [RSt.ints])
          have k4 : (Lit.int .i64 xf.c4).wf = true := hwfs _ (by simp [RSt.ints])
          have k5 : (Lit.int .i64 xf.c5).wf = true := hwfs _ (by simp [RSt.ints])
          have k6 : (Lit.int .i64 xf.c6).wf = true := hwfs _ (by simp [RSt.ints])
          exact ⟨[_], _, rfl, ti k0, [_], _, rfl, ti k1, [_], _, rfl, ti k2, [_], _, rfl, ti k3, [_], _, rfl, ti k4, [_], _, rfl, ti k5, [_], _, rfl, ti k6, [_], [], rfl, h4, rfl⟩
        | 1, _ => exact rel_leaf.2 ⟨rfl, rfl⟩
        | i + 2, hi => exact absurd hi (by show ¬ i + 2 < 2; omega)
      rcases u1.2 with ⟨rfl, hn0⟩ | ⟨U, cap, cur, rfl, hUlo, hcell, hlc, hcm, hcs, htake⟩
      · have hnil : xf.us = [] := List.eq_nil_of_length_eq_zero hn0
        refine fin g.C none (fun _ _ _ => Iff.rfl) (fun b o h => Nat.lt_of_lt_of_le (hlim b o h) hbel.size) (fun b h => (by cases h)) ?_
        rw [hnil]
        exact ⟨⟨none, 0, 0, rfl, rfl, Nat.le_refl _, by unfold maxLen; omega, fun i x hx => by
          have hx : List.nil[i]? = some x := hx
          simp at hx⟩, fun _ => ⟨_, rfl, .inl ⟨none, rfl, rfl, rfl⟩⟩⟩
      · have hUs : U < w'.heap.size := (Array.getElem?_eq_some_iff.1 hcell).1
        have hroU := u2 U rfl
        have hel : ∀ (i : Nat) (x : UserD), xf.us[i]? = some x → RepD w' (fun b o => g.C b o ∨ (w.heap.size ≤ b ∧ b < w'.heap.size ∧ (b = U → o < xf.us.length * 6))) userT x ((cur.toList.drop (i * 6)).take 6) := fun i x hx => by
          have h1 := user_rep (C := fun b o => g.C b o ∨ (w.heap.size ≤ b ∧ b < w'.heap.size ∧ (b = U → o < xf.us.length * 6))) (u3 i x hx) fun b o hb => .inr (by
            have hne : role b ≠ .no := by rcases hb with hb | hb <;> (rw [hb]; intro e; cases e)
            have h2 := hrd.lt b hne
            refine ⟨by omega, h2.2, fun e => ?_⟩
            rw [e, hroU] at hb
            rcases hb with hb | hb <;> cases hb)
          rw [← htake, take_row (List.getElem?_eq_some_iff.1 hx).1] at h1
          exact h1
        refine fin (fun b o => g.C b o ∨ (w.heap.size ≤ b ∧ b < w'.heap.size ∧ (b = U → o < xf.us.length * 6))) (some U) (fun b o hb => ⟨fun h => h.elim id fun h => absurd h.1 (by omega), .inl⟩) (fun b o h => h.elim (fun h => Nat.lt_of_lt_of_le (hlim b o h) hbel.size) fun h => h.2.1) (fun b h => by injection h with h; rw [← h]; exact ⟨by omega, hUs⟩) ⟨⟨_, _, _, rfl, rfl, hlc, hcm, fun i x hx => ?_⟩, fun _ => ⟨_, rfl, .inr ⟨U, cap, cur, rfl, rfl, hcell, hlc, hcm, hcs, hel, fun o => ?_, fun o _ => .inl (by rw [hw]; omega)⟩⟩⟩
        · have hx : xf.us[i]? = some x := hx
          have hr := hel i x hx
          have hi := (List.getElem?_eq_some_iff.1 hx).1
          refine ⟨_, _, rfl, RepD.len hr, fun j u hj => ?_, hr⟩
          have hjl : j < 6 := by
            have h4 := (List.getElem?_eq_some_iff.1 hj).1
            have h5 : _ = 6 := RepD.len hr
            omega
          rw [List.getElem?_take, if_pos hjl, List.getElem?_drop] at hj
          rw [add_at]
          refine ⟨?_, .inr ⟨by show w.heap.size ≤ U; omega, hUs, fun _ => ?_⟩⟩
          · rw [cell_at hcell, ← Array.getElem?_toList, Nat.zero_add]; exact hj
          · show 0 + (i * 6 + j) < _
            omega
        · show (g.C U o ∨ (w.heap.size ≤ U ∧ U < w'.heap.size ∧ (U = U → o < xf.us.length * 6))) ↔ o < xf.us.length * 6
          constructor
          · rintro (h | h)
            · have := hlim _ _ h
              omega
            · exact h.2.2 rfl
          · intro h
            exact .inr ⟨by omega, hUs, fun _ => h⟩
    · rw [hno he]
      have h3 : cond (decide (ef = 0)) (some ((xf.c0, xf.c1, xf.c2, xf.c3, xf.c4, xf.c5, xf.c6, xf.us, 0) : ConfR)) (cond (decide (0 < ef) && decide (ef < 10)) (some ((0, 0, 0, 0, 0, 0, 0, [], ef) : ConfR)) none) = some y := h3
      rw [decide_eq_false he, cond_false] at h3
      cases hlt : (decide (0 < ef) && decide (ef < 10)) with
      | false => rw [hlt] at h3; cases h3
      | true =>
      rw [hlt] at h3
      have hy : ((0, 0, 0, 0, 0, 0, 0, [], ef) : ConfR) = y := by
        have h3 : some _ = some y := h3
        injection h3
      subst hy
      rw [Bool.and_eq_true, decide_eq_true_eq, decide_eq_true_eq] at hlt
      refine ⟨[.agg #[.int .i64 0, .int .i64 0, .int .i64 0, .int .i64 0, .int .i64 0, .int .i64 0, .int .i64 0, .slice none 0 0], .int .i64 ef], _, g.C, fun _ => none, rfl, rfl, rfl, hbel, fun _ _ _ => Iff.rfl, fun b o h => Nat.lt_of_lt_of_le (hlim b o h) hbel.size, rfl, fun k b h => (by cases h), fun k k' b h => (by cases h), fun i hi => ?_⟩
      match i, hi with
      | 0, _ =>
        have ti : ∀ {x : Int}, (Lit.int .i64 x).wf = true → RepL F ⟨g.C, fun _ => none, g.ρ, fun _ _ => []⟩ w' (exitO F_conf_Parse_sig) (.d (.int .i64) x) [.int .i64 x] := fun h => ⟨rfl, h⟩
        refine ⟨[.int .i64 0, .int .i64 0, .int .i64 0, .int .i64 0, .int .i64 0, .int .i64 0, .int .i64 0, .slice none 0 0], ?_, rfl⟩
        refine ⟨[_], _, rfl, ti rfl, [_], _, rfl, ti rfl, [_], _, rfl, ti rfl, [_], _, rfl, ti rfl, [_], _, rfl, ti rfl, [_], _, rfl, ti rfl, [_], _, rfl, ti rfl, [_], [], rfl, ?_, rfl⟩
        exact ⟨⟨none, 0, 0, rfl, rfl, Nat.le_refl _, by unfold maxLen; omega, fun i x hx => by
          have hx : List.nil[i]? = some x := hx
          simp at hx⟩, fun _ => ⟨_, rfl, .inl ⟨none, rfl, rfl, rfl⟩⟩⟩
      | 1, _ =>
        have kw : (Lit.int .i64 ef).wf = true := wf_of (by omega)
        exact rel_leaf.2 ⟨rfl, kw⟩
      | i + 2, hi => exact absurd hi (by show ¬ i + 2 < 2; omega)
end Go.Proofs.YtgfmfgombmpodaaGreatDoor

/- The functions of the program as Lean functions, written by a program of ours and held by the kernel. -/
namespace Go.Proofs.YtgfmfgombmpodaaGreatDoor
open Pv
set_option linter.unusedVariables false
noncomputable def F_wlvlaw18_first : Option (Bool) :=
  (F_conf_Parse ([] : List (List Int))).bind fun x1 =>
  cond (x1.2.2.2.2.2.2.2.2 == 0)
  (cond (x1.1 == 16)
    (cond (x1.2.1 == 100)
      (cond (x1.2.2.1 == 65535)
        (cond (x1.2.2.2.1 == 1000)
          (cond (x1.2.2.2.2.1 == 1000000)
            (cond (x1.2.2.2.2.2.1 == 1000)
              (cond (x1.2.2.2.2.2.2.1 == 16384)
                (some ((x1.2.2.2.2.2.2.2.1.length : Int) == 0))
                (some false))
              (some false))
            (some false))
          (some false))
        (some false))
      (some false))
    (some false))
  (some false)
def F_wlvlaw18_first_sig : Sig := ⟨[], [(false, [.d .bool])]⟩
def F_wlvlaw18_first_ann : List (Nat × Ann) := []
noncomputable def F_wlvlaw18_first_env : Env := ⟨Tryz.prog, [(27, ⟨F_conf_Parse_sig, ⟨F_conf_Parse⟩⟩)], []⟩
set_option maxRecDepth 100000 in
theorem F_wlvlaw18_first_text : pvFn F_wlvlaw18_first_env F_wlvlaw18_first_ann Tryz.f25 F_wlvlaw18_first_sig = F_wlvlaw18_first := by kernel_rfl
noncomputable def F_wlvref_Dec_step (r0 : Int → Option (List Int)) (i1 : Int) : Option (List Int) :=
  cond (decide (i1 < 10))
  (some ([(IntKind.u8.wrap (IntKind.i64.wrap (48 + (maxI i1 0))))] : List Int))
  ((r0 (IntKind.i64.wrap (Int.tdiv i1 10))).bind fun s2 =>
    chk (Nat.ble (s2.length + ([(IntKind.u8.wrap (IntKind.i64.wrap (48 + (Int.tmod i1 10))))] : List Int).length) maxLen)
    (some (s2 ++ ([(IntKind.u8.wrap (IntKind.i64.wrap (48 + (Int.tmod i1 10))))] : List Int))))
def F_wlvref_Dec_sig : Sig := ⟨[.v false [.d (.int .i64)]], [(false, [.d .str])]⟩
def F_wlvref_Dec_ann : List (Nat × Ann) := []
noncomputable def F_wlvref_Dec_env (r0 : Int → Option (List Int)) : Env := ⟨Tryz.prog, [(30, ⟨F_wlvref_Dec_sig, ⟨r0⟩⟩)], []⟩
set_option maxRecDepth 100000 in
theorem F_wlvref_Dec_text (r0 : Int → Option (List Int)) : pvFn (F_wlvref_Dec_env r0) F_wlvref_Dec_ann Tryz.f30 F_wlvref_Dec_sig = F_wlvref_Dec_step r0 := by kernel_rfl
noncomputable def F_wlvref_Dec_fuel : Nat → Int → Option (List Int)
  | 0 => Pv.botF (α := List Int) [(.int .i64)]
  | k + 1 => F_wlvref_Dec_step (F_wlvref_Dec_fuel k)
noncomputable def F_wlvref_Dec : Int → Option (List Int) := F_wlvref_Dec_fuel 64
end Go.Proofs.YtgfmfgombmpodaaGreatDoor

/- The functions of the program as Lean functions, written by a program of ours and held by the kernel. -/
namespace Go.Proofs.YtgfmfgombmpodaaGreatDoor
open Pv
set_option linter.unusedVariables false
noncomputable def F_wlvlaw18_ConfFull_L9 (s : List Int) : Option (((Bool) ⊕ (List Int)) ⊕ (List Int)) :=
  let s5 := s
  cond (decide ((s5.length : Int) < 64))
  (chk (Nat.ble (s5.length + ([102, 102] : List Int).length) maxLen)
    (some (.inr (s5 ++ ([102, 102] : List Int)))))
  (some (.inl (.inr s5)))
noncomputable def F_wlvlaw18_ConfFull_L15 (i1 : Int) (s6 : List Int) (s : List (List Int) × Int) : Option (((Bool) ⊕ (List (List Int))) ⊕ (List (List Int) × Int)) :=
  let l7 := s.1; let i8 := s.2
  cond (decide (i8 < i1))
  ((F_wlvref_Dec i8).bind fun s9 =>
    chk (Nat.ble (([117, 115, 101, 114, 32, 117] : List Int).length + s9.length) maxLen)
    (chk (Nat.ble ((([117, 115, 101, 114, 32, 117] : List Int) ++ s9).length + ([32, 48, 48, 32] : List Int).length) maxLen)
      (chk (Nat.ble (((([117, 115, 101, 114, 32, 117] : List Int) ++ s9) ++ ([32, 48, 48, 32] : List Int)).length + s6.length) maxLen)
        (chk (Nat.ble ((((([117, 115, 101, 114, 32, 117] : List Int) ++ s9) ++ ([32, 48, 48, 32] : List Int)) ++ s6).length + ([32, 49, 32, 49, 32, 49] : List Int).length) maxLen)
          (chk (decide ((l7.length + ([((((([117, 115, 101, 114, 32, 117] : List Int) ++ s9) ++ ([32, 48, 48, 32] : List Int)) ++ s6) ++ ([32, 49, 32, 49, 32, 49] : List Int))] : List (List Int)).length) * 16 ≤ 140737488355328) && decide (l7.length + ([((((([117, 115, 101, 114, 32, 117] : List Int) ++ s9) ++ ([32, 48, 48, 32] : List Int)) ++ s6) ++ ([32, 49, 32, 49, 32, 49] : List Int))] : List (List Int)).length ≤ maxLen))
            (some (.inr ((l7 ++ ([((((([117, 115, 101, 114, 32, 117] : List Int) ++ s9) ++ ([32, 48, 48, 32] : List Int)) ++ s6) ++ ([32, 49, 32, 49, 32, 49] : List Int))] : List (List Int))), (IntKind.i64.wrap (i8 + 1))))))))))
  (some (.inl (.inr l7)))
noncomputable def F_wlvlaw18_ConfFull_L21 (i2 : Int) (s : List (List Int) × Int) : Option (((Bool) ⊕ (List (List Int))) ⊕ (List (List Int) × Int)) :=
  let l11 := s.1; let i12 := s.2
  cond (decide (i12 < i2))
  (chk (decide ((l11.length + ([([100, 101, 110, 121, 32, 117, 48, 32, 49, 48, 46, 48, 46, 48, 46, 48, 47, 56, 32, 49, 45, 57] : List Int)] : List (List Int)).length) * 16 ≤ 140737488355328) && decide (l11.length + ([([100, 101, 110, 121, 32, 117, 48, 32, 49, 48, 46, 48, 46, 48, 46, 48, 47, 56, 32, 49, 45, 57] : List Int)] : List (List Int)).length ≤ maxLen))
    (some (.inr ((l11 ++ ([([100, 101, 110, 121, 32, 117, 48, 32, 49, 48, 46, 48, 46, 48, 46, 48, 47, 56, 32, 49, 45, 57] : List Int)] : List (List Int))), (IntKind.i64.wrap (i12 + 1))))))
  (some (.inl (.inr l11)))
noncomputable def F_wlvlaw18_ConfFull_J19 (i1 : Int) (i2 : Int) (s : List (List Int)) : Option (Bool) :=
  let l13 := s
  (F_conf_Parse l13).bind fun x14 =>
  cond ((decide (i1 > 16)) || (decide (i2 > 64)))
  ((F_wlvlaw18_first).bind fun b15 =>
    cond (b15 && (x14.2.2.2.2.2.2.2.2 == 7))
    (some ((x14.2.2.2.2.2.2.2.1.length : Int) == 0))
    (some false))
  ((F_wlvlaw18_first).bind fun b16 =>
    cond (b16 && (x14.2.2.2.2.2.2.2.2 == 0))
    (cond ((x14.2.2.2.2.2.2.2.1.length : Int) == i1)
      ((getI x14.2.2.2.2.2.2.2.1 0).bind fun x17 =>
        some ((x17.2.2.2.2.length : Int) == i2))
      (some false))
    (some false))
noncomputable def F_wlvlaw18_ConfFull_J13 (i1 : Int) (i2 : Int) (s : List (List Int)) : Option (Bool) :=
  let l10 := s
  joinC (S := List (List Int)) (R := Bool)
  (loopC (S := List (List Int) × Int) (R := (Bool) ⊕ (List (List Int))) (F_wlvlaw18_ConfFull_L21 i2) (l10, 0))
  (F_wlvlaw18_ConfFull_J19 i1 i2)
noncomputable def F_wlvlaw18_ConfFull_J8 (i1 : Int) (i2 : Int) (s : List Int) : Option (Bool) :=
  let s6 := s
  joinC (S := List (List Int)) (R := Bool)
  (loopC (S := List (List Int) × Int) (R := (Bool) ⊕ (List (List Int))) (F_wlvlaw18_ConfFull_L15 i1 s6) (([] : List (List Int)), 0))
  (F_wlvlaw18_ConfFull_J13 i1 i2)
noncomputable def F_wlvlaw18_ConfFull (i1 : Int) (i2 : Int) : Option (Bool) :=
  (F_wlvlaw18_first).bind fun b3 =>
  cond (!b3)
  (some false)
  (cond ((((decide (i1 < 1)) || (decide (i1 > 30))) || (decide (i2 < 0))) || (decide (i2 > 100)))
    ((F_wlvlaw18_first).bind fun b4 =>
      some b4)
    (joinC (S := List Int) (R := Bool)
      (loopC (S := List Int) (R := (Bool) ⊕ (List Int)) (F_wlvlaw18_ConfFull_L9) ([] : List Int))
      (F_wlvlaw18_ConfFull_J8 i1 i2)))
def F_wlvlaw18_ConfFull_sig : Sig := ⟨[.v false [.d (.int .i64)], .v false [.d (.int .i64)]], [(false, [.d .bool])]⟩
def F_wlvlaw18_ConfFull_ann : List (Nat × Ann) := [(8, ⟨9, [(5, false, [.d .str])], [], [29, 30, 31, 32, 33], []⟩), (9, ⟨10, [(5, false, [.d .str])], [], [29, 30, 31, 32, 33], []⟩), (13, ⟨14, [(6, false, [.own 9 .str])], [], [7, 34, 35, 36, 37, 38, 39, 40, 41, 42, 43, 44, 45, 46, 47, 48], []⟩), (15, ⟨16, [(6, false, [.own 9 .str]), (7, false, [.d (.int .i64)])], [], [34, 35, 36, 37, 38, 39, 40, 41, 42, 43, 44, 45, 46, 47, 48], []⟩), (19, ⟨20, [(6, false, [.own 9 .str])], [], [8, 49, 50, 51, 52, 53, 54, 55, 56], []⟩), (21, ⟨22, [(6, false, [.own 9 .str]), (8, false, [.d (.int .i64)])], [], [49, 50, 51, 52, 53, 54, 55, 56], []⟩)]
noncomputable def F_wlvlaw18_ConfFull_env : Env := ⟨Tryz.prog, [(25, ⟨F_wlvlaw18_first_sig, ⟨F_wlvlaw18_first⟩⟩), (27, ⟨F_conf_Parse_sig, ⟨F_conf_Parse⟩⟩), (30, ⟨F_wlvref_Dec_sig, ⟨F_wlvref_Dec⟩⟩)], []⟩
set_option maxRecDepth 100000 in
theorem F_wlvlaw18_ConfFull_text : pvFn F_wlvlaw18_ConfFull_env F_wlvlaw18_ConfFull_ann Tryz.f6 F_wlvlaw18_ConfFull_sig = F_wlvlaw18_ConfFull := by kernel_rfl
end Go.Proofs.YtgfmfgombmpodaaGreatDoor

/- The functions compute what their Lean functions tell. -/
namespace Go.Proofs.YtgfmfgombmpodaaGreatDoor
open Pv
theorem F_wlvlaw18_first_sound {T : Tab} (h_maxlen : has_maxlen T) (h_pow10 : tab_pow10 ∈ T) (h_errs : has_errs T) : SoundFn Tryz.prog T 25 F_wlvlaw18_first_sig ⟨F_wlvlaw18_first⟩ := by
  have h := fn_sound (T := T) (E := F_wlvlaw18_first_env) (by unfold Env.ok; exact List.forall_mem_cons.2 ⟨F_conf_Parse_sound h_maxlen h_pow10 h_errs, fun p h => by cases h⟩) (A := F_wlvlaw18_first_ann) (f := 25) (fn := Tryz.f25) (s := F_wlvlaw18_first_sig) Tryz.func25
  rw [F_wlvlaw18_first_text] at h
  exact h
theorem F_wlvref_Dec_fuel_sound {T : Tab} : ∀ k : Nat, SoundFn Tryz.prog T 30 F_wlvref_Dec_sig ⟨F_wlvref_Dec_fuel k⟩
  | 0 => by
    intro F g st xs y tmf w args _ _ happ
    have e : none = some y := (appF_bot (α := (F_wlvref_Dec_sig).out.D) ((parsT (F_wlvref_Dec_sig).ps).map LT.ty) xs).symm.trans happ
    cases e
  | k + 1 => by
    have ih := F_wlvref_Dec_fuel_sound (T := T) k
    have h := fn_sound (T := T) (E := F_wlvref_Dec_env (F_wlvref_Dec_fuel k)) (by unfold Env.ok; exact List.forall_mem_cons.2 ⟨ih, fun p h => by cases h⟩) (A := F_wlvref_Dec_ann) (f := 30) (fn := Tryz.f30) (s := F_wlvref_Dec_sig) Tryz.func30
    rw [F_wlvref_Dec_text] at h
    exact h
theorem F_wlvref_Dec_sound {T : Tab} : SoundFn Tryz.prog T 30 F_wlvref_Dec_sig ⟨F_wlvref_Dec⟩ := F_wlvref_Dec_fuel_sound 64
end Go.Proofs.YtgfmfgombmpodaaGreatDoor

/- The functions compute what their Lean functions tell. -/
namespace Go.Proofs.YtgfmfgombmpodaaGreatDoor
open Pv
theorem F_wlvlaw18_ConfFull_sound {T : Tab} (h_maxlen : has_maxlen T) (h_pow10 : tab_pow10 ∈ T) (h_errs : has_errs T) : SoundFn Tryz.prog T 6 F_wlvlaw18_ConfFull_sig ⟨F_wlvlaw18_ConfFull⟩ := by
  have h := fn_sound (T := T) (E := F_wlvlaw18_ConfFull_env) (by unfold Env.ok; exact List.forall_mem_cons.2 ⟨F_wlvlaw18_first_sound h_maxlen h_pow10 h_errs, List.forall_mem_cons.2 ⟨F_conf_Parse_sound h_maxlen h_pow10 h_errs, List.forall_mem_cons.2 ⟨F_wlvref_Dec_sound, fun p h => by cases h⟩⟩⟩) (A := F_wlvlaw18_ConfFull_ann) (f := 6) (fn := Tryz.f6) (s := F_wlvlaw18_ConfFull_sig) Tryz.func6
  rw [F_wlvlaw18_ConfFull_text] at h
  exact h
end Go.Proofs.YtgfmfgombmpodaaGreatDoor

/- The functions of the program as Lean functions, written by a program of ours and held by the kernel. -/
namespace Go.Proofs.YtgfmfgombmpodaaGreatDoor
open Pv
set_option linter.unusedVariables false
noncomputable def F_wlvref_Split_L5 (s1 : List Int) (i2 : Int) (s : List (List Int) × Int × Int) : Option (((List (List Int)) ⊕ (List (List Int))) ⊕ (List (List Int) × Int × Int)) :=
  let l3 := s.1; let i4 := s.2.1; let i5 := s.2.2
  cond (decide (i5 ≤ (s1.length : Int)))
  (cond (i5 == (s1.length : Int))
    ((cutI s1 i4 i5).bind fun s6 =>
      chk (decide ((l3.length + ([s6] : List (List Int)).length) * 16 ≤ 140737488355328) && decide (l3.length + ([s6] : List (List Int)).length ≤ maxLen))
      (some (.inr ((l3 ++ ([s6] : List (List Int))), (IntKind.i64.wrap (i5 + 1)), (IntKind.i64.wrap (i5 + 1))))))
    ((getI s1 i5).bind fun i7 =>
      cond (i7 == i2)
      ((cutI s1 i4 i5).bind fun s8 =>
        chk (decide ((l3.length + ([s8] : List (List Int)).length) * 16 ≤ 140737488355328) && decide (l3.length + ([s8] : List (List Int)).length ≤ maxLen))
        (some (.inr ((l3 ++ ([s8] : List (List Int))), (IntKind.i64.wrap (i5 + 1)), (IntKind.i64.wrap (i5 + 1))))))
      (some (.inr (l3, i4, (IntKind.i64.wrap (i5 + 1)))))))
  (some (.inl (.inr l3)))
noncomputable def F_wlvref_Split_J3 (s : List (List Int)) : Option (List (List Int)) :=
  let l9 := s
  some l9
noncomputable def F_wlvref_Split (s1 : List Int) (i2 : Int) : Option (List (List Int)) :=
  joinC (S := List (List Int)) (R := List (List Int))
  (loopC (S := List (List Int) × Int × Int) (R := (List (List Int)) ⊕ (List (List Int))) (F_wlvref_Split_L5 s1 i2) (([] : List (List Int)), 0, 0))
  (F_wlvref_Split_J3)
def F_wlvref_Split_sig : Sig := ⟨[.v false [.d .str], .v false [.d (.int .u8)]], [(false, [.own 9 .str])]⟩
def F_wlvref_Split_ann : List (Nat × Ann) := [(3, ⟨4, [(5, false, [.own 9 .str])], [], [6, 7, 8, 9, 10, 11, 12, 13, 14, 15, 16, 17, 18, 19, 20, 21, 22, 23, 24, 25, 26, 27, 28, 29, 30, 31, 32, 33], []⟩), (5, ⟨6, [(5, false, [.own 9 .str]), (6, false, [.d (.int .i64)]), (7, false, [.d (.int .i64)])], [], [8, 9, 10, 11, 12, 13, 14, 15, 16, 17, 18, 19, 20, 21, 22, 23, 24, 25, 26, 27, 28, 29, 30, 31, 32, 33], []⟩)]
noncomputable def F_wlvref_Split_env : Env := ⟨Tryz.prog, [], []⟩
set_option maxRecDepth 100000 in
theorem F_wlvref_Split_text : pvFn F_wlvref_Split_env F_wlvref_Split_ann Tryz.f55 F_wlvref_Split_sig = F_wlvref_Split := by kernel_rfl
noncomputable def F_wlvref18_limits : Option (List (List Int) × List Int) :=
  some (([([99, 111, 110, 110, 115] : List Int), ([115, 116, 114, 101, 97, 109, 115] : List Int), ([98, 117, 102, 102, 101, 114] : List Int), ([108, 111, 103] : List Int), ([105, 100, 108, 101] : List Int), ([100, 105, 97, 108] : List Int), ([108, 105, 115, 116] : List Int)] : List (List Int)), ([16, 100, 65535, 100000, 1099511627776, 1099511627776, 16384] : List Int))
def F_wlvref18_limits_sig : Sig := ⟨[], [(false, [.own 9 .str]), (false, [.own 3 (.int .i64)])]⟩
def F_wlvref18_limits_ann : List (Nat × Ann) := []
noncomputable def F_wlvref18_limits_env : Env := ⟨Tryz.prog, [], []⟩
set_option maxRecDepth 100000 in
theorem F_wlvref18_limits_text : pvFn F_wlvref18_limits_env F_wlvref18_limits_ann Tryz.f73 F_wlvref18_limits_sig = F_wlvref18_limits := by kernel_rfl
noncomputable def F_wlvref_Num_L7 (s1 : List Int) (s : Int × Int) : Option (((Int × Bool) ⊕ (Int)) ⊕ (Int × Int)) :=
  let i5 := s.1; let i6 := s.2
  cond (decide (i6 < (s1.length : Int)))
  ((getI s1 i6).bind fun i7 =>
    cond (decide (i7 < 48))
    (some (.inl (.inl (0, false))))
    ((getI s1 i6).bind fun i8 =>
      cond (decide (i8 > 57))
      (some (.inl (.inl (0, false))))
      ((getI s1 i6).bind fun i9 =>
        some (.inr ((IntKind.i64.wrap ((IntKind.i64.wrap (i5 * 10)) + (IntKind.i64.wrap (IntKind.u8.wrap (i9 - 48))))), (IntKind.i64.wrap (i6 + 1)))))))
  (some (.inl (.inr i5)))
noncomputable def F_wlvref_Num_J5 (i2 : Int) (i3 : Int) (s : Int) : Option (Int × Bool) :=
  let i10 := s
  some (i10, ((decide (i10 ≥ i2)) && (decide (i10 ≤ i3))))
noncomputable def F_wlvref_Num (s1 : List Int) (i2 : Int) (i3 : Int) : Option (Int × Bool) :=
  cond ((decide ((s1.length : Int) < 1)) || (decide ((s1.length : Int) > 17)))
  (some (0, false))
  (cond (decide ((s1.length : Int) > 1))
    ((getI s1 0).bind fun i4 =>
      cond (i4 == 48)
      (some (0, false))
      (joinC (S := Int) (R := Int × Bool)
        (loopC (S := Int × Int) (R := (Int × Bool) ⊕ (Int)) (F_wlvref_Num_L7 s1) (0, 0))
        (F_wlvref_Num_J5 i2 i3)))
    (joinC (S := Int) (R := Int × Bool)
      (loopC (S := Int × Int) (R := (Int × Bool) ⊕ (Int)) (F_wlvref_Num_L7 s1) (0, 0))
      (F_wlvref_Num_J5 i2 i3)))
def F_wlvref_Num_sig : Sig := ⟨[.v false [.d .str], .v false [.d (.int .i64)], .v false [.d (.int .i64)]], [(false, [.d (.int .i64)]), (false, [.d .bool])]⟩
def F_wlvref_Num_ann : List (Nat × Ann) := [(5, ⟨6, [(8, false, [.d (.int .i64)])], [], [6, 7, 9, 28, 29, 30, 31, 32, 33, 34, 35, 36, 37, 38, 39, 40, 41, 42, 43, 44, 45, 46, 47, 48, 49, 50, 51], []⟩), (7, ⟨8, [(8, false, [.d (.int .i64)]), (9, false, [.d (.int .i64)])], [], [6, 7, 28, 29, 30, 31, 32, 33, 34, 35, 36, 37, 38, 39, 40, 41, 42, 43, 44, 45, 46, 47, 48, 49, 50, 51], []⟩)]
noncomputable def F_wlvref_Num_env : Env := ⟨Tryz.prog, [], []⟩
set_option maxRecDepth 100000 in
theorem F_wlvref_Num_text : pvFn F_wlvref_Num_env F_wlvref_Num_ann Tryz.f98 F_wlvref_Num_sig = F_wlvref_Num := by kernel_rfl
noncomputable def F_wlvref18_name_L6 (s1 : List Int) (s : Int) : Option (((Bool) ⊕ (Unit)) ⊕ (Int)) :=
  let i2 := s
  cond (decide (i2 < (s1.length : Int)))
  ((getI s1 i2).bind fun i3 =>
    cond ((decide (i3 < 97)) || (decide (i3 > 122)))
    (cond ((decide (i3 < 65)) || (decide (i3 > 90)))
      (cond (((((decide (i3 < 48)) || (decide (i3 > 57))) && (i3 != 46)) && (i3 != 95)) && (i3 != 45))
        (some (.inl (.inl false)))
        (some (.inr (IntKind.i64.wrap (i2 + 1)))))
      (some (.inr (IntKind.i64.wrap (i2 + 1)))))
    (cond false
      (cond (((((decide (i3 < 48)) || (decide (i3 > 57))) && (i3 != 46)) && (i3 != 95)) && (i3 != 45))
        (some (.inl (.inl false)))
        (some (.inr (IntKind.i64.wrap (i2 + 1)))))
      (some (.inr (IntKind.i64.wrap (i2 + 1))))))
  (some (.inl (.inr ())))
noncomputable def F_wlvref18_name_J4 (s : Unit) : Option (Bool) :=
  some true
noncomputable def F_wlvref18_name (s1 : List Int) : Option (Bool) :=
  cond ((decide ((s1.length : Int) < 1)) || (decide ((s1.length : Int) > 64)))
  (some false)
  (joinC (S := Unit) (R := Bool)
    (loopC (S := Int) (R := (Bool) ⊕ (Unit)) (F_wlvref18_name_L6 s1) 0)
    (F_wlvref18_name_J4))
def F_wlvref18_name_sig : Sig := ⟨[.v false [.d .str]], [(false, [.d .bool])]⟩
def F_wlvref18_name_ann : List (Nat × Ann) := [(4, ⟨5, [], [], [2, 3, 4, 13, 14, 15, 16, 17, 18, 19, 20, 21, 22, 23, 24, 25, 26, 27, 28, 29, 30, 31, 32, 33, 34, 35, 36, 37, 38, 39, 40, 41, 42, 43, 44, 45, 46, 47, 48, 49, 50, 51, 52, 53, 54, 55], []⟩), (6, ⟨7, [(3, false, [.d (.int .i64)])], [], [2, 4, 13, 14, 15, 16, 17, 18, 19, 20, 21, 22, 23, 24, 25, 26, 27, 28, 29, 30, 31, 32, 33, 34, 35, 36, 37, 38, 39, 40, 41, 42, 43, 44, 45, 46, 47, 48, 49, 50, 51, 52, 53, 54, 55], []⟩)]
noncomputable def F_wlvref18_name_env : Env := ⟨Tryz.prog, [], []⟩
set_option maxRecDepth 100000 in
theorem F_wlvref18_name_text : pvFn F_wlvref18_name_env F_wlvref18_name_ann Tryz.f99 F_wlvref18_name_sig = F_wlvref18_name := by kernel_rfl
noncomputable def F_wlvref18_digit_L3 (i1 : Int) (s : Int) : Option (((Int) ⊕ (Unit)) ⊕ (Int)) :=
  let i2 := s
  cond (decide (i2 < 16))
  ((getI ([48, 49, 50, 51, 52, 53, 54, 55, 56, 57, 97, 98, 99, 100, 101, 102] : List Int) i2).bind fun i3 =>
    cond (i3 == i1)
    (some (.inl (.inl i2)))
    (some (.inr (IntKind.i64.wrap (i2 + 1)))))
  (some (.inl (.inr ())))
noncomputable def F_wlvref18_digit_J1 (s : Unit) : Option (Int) :=
  some (-1)
noncomputable def F_wlvref18_digit (i1 : Int) : Option (Int) :=
  joinC (S := Unit) (R := Int)
  (loopC (S := Int) (R := (Int) ⊕ (Unit)) (F_wlvref18_digit_L3 i1) 0)
  (F_wlvref18_digit_J1)
def F_wlvref18_digit_sig : Sig := ⟨[.v false [.d (.int .u8)]], [(false, [.d (.int .i64)])]⟩
def F_wlvref18_digit_ann : List (Nat × Ann) := [(1, ⟨2, [], [], [2, 3, 4, 5, 6, 7, 8, 9, 10, 11, 12], []⟩), (3, ⟨4, [(3, false, [.d (.int .i64)])], [], [2, 4, 5, 6, 7, 8, 9, 10, 11, 12], []⟩)]
noncomputable def F_wlvref18_digit_env : Env := ⟨Tryz.prog, [], []⟩
set_option maxRecDepth 100000 in
theorem F_wlvref18_digit_text : pvFn F_wlvref18_digit_env F_wlvref18_digit_ann Tryz.f138 F_wlvref18_digit_sig = F_wlvref18_digit := by kernel_rfl
noncomputable def F_wlvref18_unhex_L7 (s1 : List Int) (s : List Int × Int) : Option (((List Int × Bool) ⊕ (List Int)) ⊕ (List Int × Int)) :=
  let l2 := s.1; let i3 := s.2
  cond (decide (i3 < (s1.length : Int)))
  ((getI s1 i3).bind fun i4 =>
    (F_wlvref18_digit i4).bind fun i5 =>
    (getI s1 (IntKind.i64.wrap (i3 + 1))).bind fun i6 =>
    (F_wlvref18_digit i6).bind fun i7 =>
    cond ((decide (i5 < 0)) || (decide (i7 < 0)))
    (some (.inl (.inl (([] : List Int), false))))
    (chk (decide ((l2.length + ([(IntKind.u8.wrap (IntKind.i64.wrap ((IntKind.i64.wrap (16 * i5)) + i7)))] : List Int).length) * 1 ≤ 140737488355328) && decide (l2.length + ([(IntKind.u8.wrap (IntKind.i64.wrap ((IntKind.i64.wrap (16 * i5)) + i7)))] : List Int).length ≤ maxLen))
      (some (.inr ((l2 ++ ([(IntKind.u8.wrap (IntKind.i64.wrap ((IntKind.i64.wrap (16 * i5)) + i7)))] : List Int)), (IntKind.i64.wrap (i3 + 2)))))))
  (some (.inl (.inr l2)))
noncomputable def F_wlvref18_unhex_J5 (s : List Int) : Option (List Int × Bool) :=
  let l8 := s
  some (l8, true)
noncomputable def F_wlvref18_unhex (s1 : List Int) : Option (List Int × Bool) :=
  cond ((Int.tmod (s1.length : Int) 2) != 0)
  (some (([] : List Int), false))
  (joinC (S := List Int) (R := List Int × Bool)
    (loopC (S := List Int × Int) (R := (List Int × Bool) ⊕ (List Int)) (F_wlvref18_unhex_L7 s1) (([] : List Int), 0))
    (F_wlvref18_unhex_J5))
def F_wlvref18_unhex_sig : Sig := ⟨[.v false [.d .str]], [(false, [.own 5 (.int .u8)]), (false, [.d .bool])]⟩
def F_wlvref18_unhex_ann : List (Nat × Ann) := [(5, ⟨6, [(4, false, [.own 5 (.int .u8)])], [], [2, 3, 5, 6, 7, 12, 13, 14, 15, 16, 17, 18, 19, 20, 21, 22, 23, 24, 25, 26, 27, 28, 29, 30, 31, 32, 33, 34, 35, 36, 37, 38, 39, 40], []⟩), (7, ⟨8, [(4, false, [.own 5 (.int .u8)]), (5, false, [.d (.int .i64)])], [], [2, 3, 6, 7, 12, 13, 14, 15, 16, 17, 18, 19, 20, 21, 22, 23, 24, 25, 26, 27, 28, 29, 30, 31, 32, 33, 34, 35, 36, 37, 38, 39, 40], []⟩)]
noncomputable def F_wlvref18_unhex_env : Env := ⟨Tryz.prog, [(138, ⟨F_wlvref18_digit_sig, ⟨F_wlvref18_digit⟩⟩)], []⟩
set_option maxRecDepth 100000 in
theorem F_wlvref18_unhex_text : pvFn F_wlvref18_unhex_env F_wlvref18_unhex_ann Tryz.f100 F_wlvref18_unhex_sig = F_wlvref18_unhex := by kernel_rfl
noncomputable def F_wlvref18_ports (s1 : List Int) : Option (Int × Int × Bool) :=
  cond (s1 == ([42] : List Int))
  (some (1, 65535, true))
  ((F_wlvref_Split s1 45).bind fun l2 =>
    (getI l2 0).bind fun s3 =>
    (F_wlvref_Num s3 1 65535).bind fun x4 =>
    cond ((l2.length : Int) == 1)
    (some (x4.1, x4.1, x4.2))
    ((getI l2 1).bind fun s5 =>
      (F_wlvref_Num s5 x4.1 65535).bind fun x6 =>
      some (x4.1, x6.1, ((x4.2 && x6.2) && ((l2.length : Int) == 2)))))
def F_wlvref18_ports_sig : Sig := ⟨[.v false [.d .str]], [(false, [.d (.int .i64)]), (false, [.d (.int .i64)]), (false, [.d .bool])]⟩
def F_wlvref18_ports_ann : List (Nat × Ann) := []
noncomputable def F_wlvref18_ports_env : Env := ⟨Tryz.prog, [(55, ⟨F_wlvref_Split_sig, ⟨F_wlvref_Split⟩⟩), (98, ⟨F_wlvref_Num_sig, ⟨F_wlvref_Num⟩⟩)], []⟩
set_option maxRecDepth 100000 in
theorem F_wlvref18_ports_text : pvFn F_wlvref18_ports_env F_wlvref18_ports_ann Tryz.f101 F_wlvref18_ports_sig = F_wlvref18_ports := by kernel_rfl
noncomputable def F_wlvref15_four_L8 (s : List (List Int) × List Int × Int) : Option (((List Int × Bool) ⊕ (List Int)) ⊕ (List (List Int) × List Int × Int)) :=
  let l3 := s.1; let l4 := s.2.1; let i5 := s.2.2
  cond (decide (i5 < 4))
  ((getI l3 i5).bind fun s6 =>
    (F_wlvref_Num s6 0 255).bind fun x7 =>
    cond (!x7.2)
    (some (.inl (.inl (([] : List Int), false))))
    (chk (decide ((l4.length + ([(IntKind.u8.wrap x7.1)] : List Int).length) * 1 ≤ 140737488355328) && decide (l4.length + ([(IntKind.u8.wrap x7.1)] : List Int).length ≤ maxLen))
      (some (.inr (l3, (l4 ++ ([(IntKind.u8.wrap x7.1)] : List Int)), (IntKind.i64.wrap (i5 + 1)))))))
  (some (.inl (.inr l4)))
noncomputable def F_wlvref15_four_J6 (s : List Int) : Option (List Int × Bool) :=
  let l8 := s
  some (l8, true)
noncomputable def F_wlvref15_four (s1 : List Int) : Option (List Int × Bool) :=
  (F_wlvref_Split s1 46).bind fun l2 =>
  cond ((l2.length : Int) != 4)
  (some (([] : List Int), false))
  (joinC (S := List Int) (R := List Int × Bool)
    (loopC (S := List (List Int) × List Int × Int) (R := (List Int × Bool) ⊕ (List Int)) (F_wlvref15_four_L8) (l2, ([] : List Int), 0))
    (F_wlvref15_four_J6))
def F_wlvref15_four_sig : Sig := ⟨[.v false [.d .str]], [(false, [.d .str]), (false, [.d .bool])]⟩
def F_wlvref15_four_ann : List (Nat × Ann) := [(6, ⟨7, [(5, false, [.own 5 (.int .u8)])], [], [2, 3, 6, 7, 8, 14, 15, 16, 17, 18, 19, 20, 21, 22, 23, 24, 25, 26, 27, 28, 29, 30, 31, 32], []⟩), (8, ⟨9, [(4, false, [.own 9 .str]), (5, false, [.own 5 (.int .u8)]), (6, false, [.d (.int .i64)])], [], [2, 3, 7, 8, 14, 15, 16, 17, 18, 19, 20, 21, 22, 23, 24, 25, 26, 27, 28, 29, 30, 31, 32], []⟩)]
noncomputable def F_wlvref15_four_env : Env := ⟨Tryz.prog, [(55, ⟨F_wlvref_Split_sig, ⟨F_wlvref_Split⟩⟩), (98, ⟨F_wlvref_Num_sig, ⟨F_wlvref_Num⟩⟩)], []⟩
set_option maxRecDepth 100000 in
theorem F_wlvref15_four_text : pvFn F_wlvref15_four_env F_wlvref15_four_ann Tryz.f176 F_wlvref15_four_sig = F_wlvref15_four := by kernel_rfl
noncomputable def F_wlvref15_group_L7 (s1 : List Int) (s : Int × Int) : Option (((Int × Bool) ⊕ (Int)) ⊕ (Int × Int)) :=
  let i2 := s.1; let i3 := s.2
  cond (decide (i3 < (s1.length : Int)))
  ((getI s1 i3).bind fun i4 =>
    cond ((decide (i4 ≥ 48)) && (decide (i4 ≤ 57)))
    (some (.inr ((IntKind.i64.wrap ((IntKind.i64.wrap (i2 * 16)) + (IntKind.i64.wrap (IntKind.u8.wrap (i4 - 48))))), (IntKind.i64.wrap (i3 + 1)))))
    (cond ((decide (i4 ≥ 97)) && (decide (i4 ≤ 102)))
      (some (.inr ((IntKind.i64.wrap ((IntKind.i64.wrap ((IntKind.i64.wrap (i2 * 16)) + (IntKind.i64.wrap (IntKind.u8.wrap (i4 - 97))))) + 10)), (IntKind.i64.wrap (i3 + 1)))))
      (cond ((decide (i4 ≥ 65)) && (decide (i4 ≤ 70)))
        (some (.inr ((IntKind.i64.wrap ((IntKind.i64.wrap ((IntKind.i64.wrap (i2 * 16)) + (IntKind.i64.wrap (IntKind.u8.wrap (i4 - 65))))) + 10)), (IntKind.i64.wrap (i3 + 1)))))
        (some (.inl (.inl (0, false)))))))
  (some (.inl (.inr i2)))
noncomputable def F_wlvref15_group_J5 (s : Int) : Option (Int × Bool) :=
  let i5 := s
  some (i5, true)
noncomputable def F_wlvref15_group (s1 : List Int) : Option (Int × Bool) :=
  cond ((decide ((s1.length : Int) < 1)) || (decide ((s1.length : Int) > 4)))
  (some (0, false))
  (joinC (S := Int) (R := Int × Bool)
    (loopC (S := Int × Int) (R := (Int × Bool) ⊕ (Int)) (F_wlvref15_group_L7 s1) (0, 0))
    (F_wlvref15_group_J5))
def F_wlvref15_group_sig : Sig := ⟨[.v false [.d .str]], [(false, [.d (.int .i64)]), (false, [.d .bool])]⟩
def F_wlvref15_group_ann : List (Nat × Ann) := [(5, ⟨6, [(4, false, [.d (.int .i64)])], [], [2, 3, 5, 6, 15, 16, 17, 18, 19, 20, 21, 22, 23, 24, 25, 26, 27, 28, 29, 30, 31, 32, 33, 34, 35, 36, 37, 38, 39, 40, 41, 42, 43, 44, 45, 46, 47, 48, 49, 50, 51, 52, 53, 54, 55, 56, 57, 58, 59, 60, 61, 62, 63, 64], []⟩), (7, ⟨8, [(4, false, [.d (.int .i64)]), (5, false, [.d (.int .i64)])], [], [2, 3, 6, 15, 16, 17, 18, 19, 20, 21, 22, 23, 24, 25, 26, 27, 28, 29, 30, 31, 32, 33, 34, 35, 36, 37, 38, 39, 40, 41, 42, 43, 44, 45, 46, 47, 48, 49, 50, 51, 52, 53, 54, 55, 56, 57, 58, 59, 60, 61, 62, 63, 64], []⟩)]
noncomputable def F_wlvref15_group_env : Env := ⟨Tryz.prog, [], []⟩
set_option maxRecDepth 100000 in
theorem F_wlvref15_group_text : pvFn F_wlvref15_group_env F_wlvref15_group_ann Tryz.f234 F_wlvref15_group_sig = F_wlvref15_group := by kernel_rfl
noncomputable def F_wlvref15_groups_L8 (s : List (List Int) × List Int × Int) : Option (((List Int × Bool) ⊕ (List (List Int) × List Int)) ⊕ (List (List Int) × List Int × Int)) :=
  let l3 := s.1; let l4 := s.2.1; let i5 := s.2.2
  cond ((decide (i5 < (l3.length : Int))) && (decide (i5 < 9)))
  ((getI l3 i5).bind fun s6 =>
    (F_wlvref15_group s6).bind fun x7 =>
    cond (!x7.2)
    (some (.inl (.inl (([] : List Int), false))))
    (chk (decide ((l4.length + ([(IntKind.u8.wrap (Int.fdiv x7.1 (2 ^ 8))), (IntKind.u8.wrap x7.1)] : List Int).length) * 1 ≤ 140737488355328) && decide (l4.length + ([(IntKind.u8.wrap (Int.fdiv x7.1 (2 ^ 8))), (IntKind.u8.wrap x7.1)] : List Int).length ≤ maxLen))
      (some (.inr (l3, (l4 ++ ([(IntKind.u8.wrap (Int.fdiv x7.1 (2 ^ 8))), (IntKind.u8.wrap x7.1)] : List Int)), (IntKind.i64.wrap (i5 + 1)))))))
  (some (.inl (.inr (l3, l4))))
noncomputable def F_wlvref15_groups_J6 (s : List (List Int) × List Int) : Option (List Int × Bool) :=
  let l8 := s.1; let l9 := s.2
  some (l9, (decide ((l8.length : Int) ≤ 8)))
noncomputable def F_wlvref15_groups (s1 : List Int) : Option (List Int × Bool) :=
  cond (s1 == ([] : List Int))
  (some (([] : List Int), true))
  ((F_wlvref_Split s1 58).bind fun l2 =>
    joinC (S := List (List Int) × List Int) (R := List Int × Bool)
    (loopC (S := List (List Int) × List Int × Int) (R := (List Int × Bool) ⊕ (List (List Int) × List Int)) (F_wlvref15_groups_L8) (l2, ([] : List Int), 0))
    (F_wlvref15_groups_J6))
def F_wlvref15_groups_sig : Sig := ⟨[.v false [.d .str]], [(false, [.own 5 (.int .u8)]), (false, [.d .bool])]⟩
def F_wlvref15_groups_ann : List (Nat × Ann) := [(6, ⟨7, [(4, false, [.own 9 .str]), (5, false, [.own 5 (.int .u8)])], [], [2, 3, 6, 7, 8, 13, 14, 15, 16, 17, 18, 19, 20, 21, 22, 23, 24, 25, 26, 27, 28, 29, 30, 31, 32, 33, 34, 35, 36, 37, 38, 39, 40], []⟩), (8, ⟨9, [(4, false, [.own 9 .str]), (5, false, [.own 5 (.int .u8)]), (6, false, [.d (.int .i64)])], [], [2, 3, 7, 8, 13, 14, 15, 16, 17, 18, 19, 20, 21, 22, 23, 24, 25, 26, 27, 28, 29, 30, 31, 32, 33, 34, 35, 36, 37, 38, 39, 40], []⟩)]
noncomputable def F_wlvref15_groups_env : Env := ⟨Tryz.prog, [(55, ⟨F_wlvref_Split_sig, ⟨F_wlvref_Split⟩⟩), (234, ⟨F_wlvref15_group_sig, ⟨F_wlvref15_group⟩⟩)], []⟩
set_option maxRecDepth 100000 in
theorem F_wlvref15_groups_text : pvFn F_wlvref15_groups_env F_wlvref15_groups_ann Tryz.f206 F_wlvref15_groups_sig = F_wlvref15_groups := by kernel_rfl
noncomputable def F_wlvref15_eight_L4 (s1 : List Int) (s : Int × Int) : Option (((List Int × Bool) ⊕ (Int)) ⊕ (Int × Int)) :=
  let i2 := s.1; let i3 := s.2
  cond (decide ((IntKind.i64.wrap (i3 + 1)) < (s1.length : Int)))
  ((getI s1 i3).bind fun i4 =>
    cond (i4 == 58)
    ((getI s1 (IntKind.i64.wrap (i3 + 1))).bind fun i5 =>
      cond ((i5 == 58) && (decide (i2 < 0)))
      (some (.inr (i3, (IntKind.i64.wrap (i3 + 1)))))
      (some (.inr (i2, (IntKind.i64.wrap (i3 + 1))))))
    (some (.inr (i2, (IntKind.i64.wrap (i3 + 1))))))
  (some (.inl (.inr i2)))
noncomputable def F_wlvref15_eight_L20 (s : List Int × List Int) : Option (((List Int × Bool) ⊕ (List Int × List Int)) ⊕ (List Int × List Int)) :=
  let l12 := s.1; let l13 := s.2
  cond (decide ((l13.length : Int) < (IntKind.i64.wrap (16 - (l12.length : Int)))))
  (chk (decide ((l13.length + ([0] : List Int).length) * 1 ≤ 140737488355328) && decide (l13.length + ([0] : List Int).length ≤ maxLen))
    (some (.inr (l12, (l13 ++ ([0] : List Int))))))
  (some (.inl (.inr (l12, l13))))
noncomputable def F_wlvref15_eight_J19 (s : List Int × List Int) : Option (List Int × Bool) :=
  let l14 := s.1; let l15 := s.2
  chk (decide ((l15.length + l14.length) * 1 ≤ 140737488355328) && decide (l15.length + l14.length ≤ maxLen))
  (some ((l15 ++ l14), true))
noncomputable def F_wlvref15_eight_J2 (s1 : List Int) (s : Int) : Option (List Int × Bool) :=
  let i6 := s
  cond (decide (i6 < 0))
  ((F_wlvref15_groups s1).bind fun x7 =>
    some (x7.1, (x7.2 && ((x7.1.length : Int) == 16))))
  ((cutI s1 0 i6).bind fun s8 =>
    (F_wlvref15_groups s8).bind fun x9 =>
    (cutI s1 (IntKind.i64.wrap (i6 + 2)) (s1.length : Int)).bind fun s10 =>
    (F_wlvref15_groups s10).bind fun x11 =>
    cond (((!x9.2) || (!x11.2)) || (decide ((IntKind.i64.wrap ((x9.1.length : Int) + (x11.1.length : Int))) > 14)))
    (some (([] : List Int), false))
    (chk (decide ((([] : List Int).length + x9.1.length) * 1 ≤ 140737488355328) && decide (([] : List Int).length + x9.1.length ≤ maxLen))
      (joinC (S := List Int × List Int) (R := List Int × Bool)
        (loopC (S := List Int × List Int) (R := (List Int × Bool) ⊕ (List Int × List Int)) (F_wlvref15_eight_L20) (x11.1, (([] : List Int) ++ x9.1)))
        (F_wlvref15_eight_J19))))
noncomputable def F_wlvref15_eight (s1 : List Int) : Option (List Int × Bool) :=
  joinC (S := Int) (R := List Int × Bool)
  (loopC (S := Int × Int) (R := (List Int × Bool) ⊕ (Int)) (F_wlvref15_eight_L4 s1) ((-1), 0))
  (F_wlvref15_eight_J2 s1)
def F_wlvref15_eight_sig : Sig := ⟨[.v false [.d .str]], [(false, [.d .str]), (false, [.d .bool])]⟩
def F_wlvref15_eight_ann : List (Nat × Ann) := [(2, ⟨3, [(4, false, [.d (.int .i64)])], [], [5, 13, 14, 15, 16, 17, 18, 19, 20, 21, 22, 23, 24, 25, 26, 27, 28, 29, 30, 31, 32, 33, 34, 35], []⟩), (4, ⟨5, [(4, false, [.d (.int .i64)]), (5, false, [.d (.int .i64)])], [], [13, 14, 15, 16, 17, 18, 19, 20, 21, 22, 23, 24, 25, 26, 27, 28, 29, 30, 31, 32, 33, 34, 35], []⟩), (19, ⟨20, [(10, false, [.own 5 (.int .u8)]), (12, false, [.own 5 (.int .u8)])], [], [83, 84, 85, 86, 87, 88, 89, 90, 91], []⟩), (20, ⟨21, [(10, false, [.own 5 (.int .u8)]), (12, false, [.own 5 (.int .u8)])], [], [83, 84, 85, 86, 87, 88, 89, 90, 91], []⟩)]
noncomputable def F_wlvref15_eight_env : Env := ⟨Tryz.prog, [(206, ⟨F_wlvref15_groups_sig, ⟨F_wlvref15_groups⟩⟩)], []⟩
set_option maxRecDepth 100000 in
theorem F_wlvref15_eight_text : pvFn F_wlvref15_eight_env F_wlvref15_eight_ann Tryz.f177 F_wlvref15_eight_sig = F_wlvref15_eight := by kernel_rfl
noncomputable def F_wlvref15_Mapped (s1 : List Int) : Option (Bool) :=
  cond ((s1.length : Int) == 16)
  ((cutI s1 0 12).bind fun s2 =>
    chk (decide (0 ≤ (10 : Int)) && decide ((10 : Int) ≤ (10 : Int)) && decide ((10 : Int) * 1 ≤ 140737488355328) && decide ((10 : Int) ≤ maxLen))
    (chk (Nat.ble ((List.replicate ((10 : Int)).toNat (0 : Int)).length + ([255, 255] : List Int).length) maxLen)
      (some (s2 == ((List.replicate ((10 : Int)).toNat (0 : Int)) ++ ([255, 255] : List Int))))))
  (some false)
def F_wlvref15_Mapped_sig : Sig := ⟨[.v false [.d .str]], [(false, [.d .bool])]⟩
def F_wlvref15_Mapped_ann : List (Nat × Ann) := []
noncomputable def F_wlvref15_Mapped_env : Env := ⟨Tryz.prog, [], []⟩
set_option maxRecDepth 100000 in
theorem F_wlvref15_Mapped_text : pvFn F_wlvref15_Mapped_env F_wlvref15_Mapped_ann Tryz.f178 F_wlvref15_Mapped_sig = F_wlvref15_Mapped := by kernel_rfl
noncomputable def F_wlvref15_Parse (s1 : List Int) : Option (List Int × Int) :=
  cond (decide ((s1.length : Int) > 50))
  (some (([] : List Int), 2))
  ((F_wlvref15_four s1).bind fun x2 =>
    cond x2.2
    (some (x2.1, 0))
    ((F_wlvref15_eight s1).bind fun x3 =>
      cond (!x3.2)
      (some (([] : List Int), 2))
      ((F_wlvref15_Mapped x3.1).bind fun b4 =>
        cond b4
        ((cutI x3.1 12 (x3.1.length : Int)).bind fun s5 =>
          some (s5, 0))
        (some (x3.1, 0)))))
def F_wlvref15_Parse_sig : Sig := ⟨[.v false [.d .str]], [(false, [.d .str]), (false, [.d (.int .i64)])]⟩
def F_wlvref15_Parse_ann : List (Nat × Ann) := []
noncomputable def F_wlvref15_Parse_env : Env := ⟨Tryz.prog, [(176, ⟨F_wlvref15_four_sig, ⟨F_wlvref15_four⟩⟩), (177, ⟨F_wlvref15_eight_sig, ⟨F_wlvref15_eight⟩⟩), (178, ⟨F_wlvref15_Mapped_sig, ⟨F_wlvref15_Mapped⟩⟩)], []⟩
set_option maxRecDepth 100000 in
theorem F_wlvref15_Parse_text : pvFn F_wlvref15_Parse_env F_wlvref15_Parse_ann Tryz.f139 F_wlvref15_Parse_sig = F_wlvref15_Parse := by kernel_rfl
noncomputable def F_wlvref15_bit (s1 : List Int) (i2 : Int) : Option (Int) :=
  (getI s1 (IntKind.i64.wrap (Int.tdiv i2 8))).bind fun i3 =>
  chk (decide (0 ≤ (IntKind.u64.wrap (IntKind.i64.wrap (7 - (Int.tmod i2 8))))))
  (some (bits .and .i64 (Int.fdiv (IntKind.i64.wrap i3) (2 ^ (min ((IntKind.u64.wrap (IntKind.i64.wrap (7 - (Int.tmod i2 8))))).toNat 64))) 1))
def F_wlvref15_bit_sig : Sig := ⟨[.v false [.d .str], .v false [.d (.int .i64)]], [(false, [.d (.int .i64)])]⟩
def F_wlvref15_bit_ann : List (Nat × Ann) := []
noncomputable def F_wlvref15_bit_env : Env := ⟨Tryz.prog, [], []⟩
set_option maxRecDepth 100000 in
theorem F_wlvref15_bit_text : pvFn F_wlvref15_bit_env F_wlvref15_bit_ann Tryz.f140 F_wlvref15_bit_sig = F_wlvref15_bit := by kernel_rfl
noncomputable def F_wlvref15_ParseNet_L15 (x4 : List Int × Int) (s : Int × List Int × Int × List Int × Int) : Option (((List Int × Int × Int) ⊕ (List Int × Int × List Int × Int)) ⊕ (Int × List Int × Int × List Int × Int)) :=
  let i7 := s.1; let s8 := s.2.1; let i9 := s.2.2.1; let s10 := s.2.2.2.1; let i11 := s.2.2.2.2
  cond (decide (i7 < (IntKind.i64.wrap (8 * (x4.1.length : Int)))))
  ((F_wlvref15_bit x4.1 i7).bind fun i12 =>
    cond (i12 != 0)
    (some (.inl (.inl (([] : List Int), 0, 2))))
    (some (.inr ((IntKind.i64.wrap (i7 + 1)), s8, i9, s10, i11))))
  (some (.inl (.inr (s8, i9, s10, i11))))
noncomputable def F_wlvref15_ParseNet_J13 (s : List Int × Int × List Int × Int) : Option (List Int × Int × Int) :=
  let s13 := s.1; let i14 := s.2.1; let s15 := s.2.2.1; let i16 := s.2.2.2
  some (s15, i16, 0)
noncomputable def F_wlvref15_ParseNet (s1 : List Int) : Option (List Int × Int × Int) :=
  (F_wlvref_Split s1 47).bind fun l2 =>
  (getI l2 0).bind fun s3 =>
  (F_wlvref15_Parse s3).bind fun x4 =>
  cond ((x4.2 != 0) || (decide ((l2.length : Int) > 2)))
  (some (([] : List Int), 0, 2))
  (cond ((l2.length : Int) == 2)
    ((getI l2 1).bind fun s5 =>
      (F_wlvref_Num s5 0 (IntKind.i64.wrap (8 * (x4.1.length : Int)))).bind fun x6 =>
      cond (!x6.2)
      (some (([] : List Int), 0, 2))
      (joinC (S := List Int × Int × List Int × Int) (R := List Int × Int × Int)
        (loopC (S := Int × List Int × Int × List Int × Int) (R := (List Int × Int × Int) ⊕ (List Int × Int × List Int × Int)) (F_wlvref15_ParseNet_L15 x4) (x6.1, ([] : List Int), 0, x4.1, x6.1))
        (F_wlvref15_ParseNet_J13)))
    (joinC (S := List Int × Int × List Int × Int) (R := List Int × Int × Int)
      (loopC (S := Int × List Int × Int × List Int × Int) (R := (List Int × Int × Int) ⊕ (List Int × Int × List Int × Int)) (F_wlvref15_ParseNet_L15 x4) ((IntKind.i64.wrap (8 * (x4.1.length : Int))), ([] : List Int), 0, x4.1, (IntKind.i64.wrap (8 * (x4.1.length : Int)))))
      (F_wlvref15_ParseNet_J13)))
def F_wlvref15_ParseNet_sig : Sig := ⟨[.v false [.d .str]], [(true, [.d .str, .d (.int .i64)]), (false, [.d (.int .i64)])]⟩
def F_wlvref15_ParseNet_ann : List (Nat × Ann) := [(13, ⟨14, [], [(2, [.d .str, .d (.int .i64)]), (7, [.d .str, .d (.int .i64)])], [3, 10, 51, 52, 53, 54, 55, 56, 57, 58, 59, 60, 61, 62, 63, 64], []⟩), (15, ⟨16, [(10, false, [.d (.int .i64)])], [(2, [.d .str, .d (.int .i64)]), (7, [.d .str, .d (.int .i64)])], [3, 53, 54, 55, 56, 57, 58, 59, 60, 61, 62, 63, 64], []⟩)]
noncomputable def F_wlvref15_ParseNet_env : Env := ⟨Tryz.prog, [(55, ⟨F_wlvref_Split_sig, ⟨F_wlvref_Split⟩⟩), (98, ⟨F_wlvref_Num_sig, ⟨F_wlvref_Num⟩⟩), (139, ⟨F_wlvref15_Parse_sig, ⟨F_wlvref15_Parse⟩⟩), (140, ⟨F_wlvref15_bit_sig, ⟨F_wlvref15_bit⟩⟩)], []⟩
set_option maxRecDepth 100000 in
theorem F_wlvref15_ParseNet_text : pvFn F_wlvref15_ParseNet_env F_wlvref15_ParseNet_ann Tryz.f102 F_wlvref15_ParseNet_sig = F_wlvref15_ParseNet := by kernel_rfl
noncomputable def F_wlvref_Lower_L4 (s1 : List Int) (s : Int × List Int) : Option (((List Int) ⊕ (List Int)) ⊕ (Int × List Int)) :=
  let i2 := s.1; let l3 := s.2
  cond (decide (i2 < (s1.length : Int)))
  (chk (decide (0 ≤ i2) && decide (i2 < (s1.length : Int)))
    ((getI l3 i2).bind fun i4 =>
      cond (decide (i4 ≥ 65))
      (chk (decide (0 ≤ i2) && decide (i2 < (s1.length : Int)))
        ((getI l3 i2).bind fun i5 =>
          cond (decide (i5 ≤ 90))
          (chk (decide (0 ≤ i2) && decide (i2 < (s1.length : Int)))
            ((getI l3 i2).bind fun i6 =>
              chk (decide (0 ≤ i2) && decide (i2 < (s1.length : Int)))
              (chk (decide (i2 < (l3.length : Int)))
                (some (.inr ((IntKind.i64.wrap (i2 + 1)), (l3.set (i2).toNat (IntKind.u8.wrap (i6 + 32)))))))))
          (some (.inr ((IntKind.i64.wrap (i2 + 1)), l3)))))
      (some (.inr ((IntKind.i64.wrap (i2 + 1)), l3)))))
  (some (.inl (.inr l3)))
noncomputable def F_wlvref_Lower_J2 (s1 : List Int) (s : List Int) : Option (List Int) :=
  let l7 := s
  chk (Nat.ble s1.length (List.length l7))
  (some (List.take s1.length l7))
noncomputable def F_wlvref_Lower (s1 : List Int) : Option (List Int) :=
  joinC (S := List Int) (R := List Int)
  (loopC (S := Int × List Int) (R := (List Int) ⊕ (List Int)) (F_wlvref_Lower_L4 s1) (0, s1))
  (F_wlvref_Lower_J2 s1)
def F_wlvref_Lower_sig : Sig := ⟨[.v false [.d .str]], [(false, [.d .str])]⟩
def F_wlvref_Lower_ann : List (Nat × Ann) := [(2, ⟨3, [], [(6, [.row (.int .u8)])], [4, 7, 8, 9, 10, 11, 12, 13, 14, 15, 16, 17, 18, 19, 20, 21, 22, 23, 24, 25, 26, 27, 28, 29, 30], []⟩), (4, ⟨5, [(4, false, [.d (.int .i64)])], [(6, [.row (.int .u8)])], [7, 8, 9, 10, 11, 12, 13, 14, 15, 16, 17, 18, 19, 20, 21, 22, 23, 24, 25, 26, 27, 28, 29, 30], []⟩)]
noncomputable def F_wlvref_Lower_env : Env := ⟨Tryz.prog, [], [6]⟩
set_option maxRecDepth 100000 in
theorem F_wlvref_Lower_text : pvFn F_wlvref_Lower_env F_wlvref_Lower_ann Tryz.f141 F_wlvref_Lower_sig = F_wlvref_Lower := by kernel_rfl
noncomputable def F_wlvref15_Name_L17 (s6 : List Int) (s : List (List Int) × Int) : Option (((((List Int × Int) ⊕ (Unit)) ⊕ (List (List Int) × Int)) ⊕ (List (List Int))) ⊕ (List (List Int) × Int)) :=
  let l9 := s.1; let i10 := s.2
  cond (decide (i10 < (s6.length : Int)))
  ((getI s6 i10).bind fun i11 =>
    cond ((decide (i11 < 97)) || (decide (i11 > 122)))
    (cond ((((decide (i11 < 48)) || (decide (i11 > 57))) && (i11 != 45)) && (i11 != 95))
      (some (.inl (.inl (.inl (.inl (([] : List Int), 2))))))
      (some (.inr (l9, (IntKind.i64.wrap (i10 + 1))))))
    (some (.inr (l9, (IntKind.i64.wrap (i10 + 1))))))
  (some (.inl (.inr l9)))
noncomputable def F_wlvref15_Name_J11 (i5 : Int) (s : List (List Int)) : Option (((List Int × Int) ⊕ (Unit)) ⊕ (List (List Int) × Int)) :=
  let l12 := s
  some (.inr (l12, (IntKind.i64.wrap (i5 + 1))))
noncomputable def F_wlvref15_Name_L8 (s : List (List Int) × Int) : Option (((List Int × Int) ⊕ (Unit)) ⊕ (List (List Int) × Int)) :=
  let l4 := s.1; let i5 := s.2
  cond (decide (i5 < (l4.length : Int)))
  (joinC (S := List (List Int)) (R := ((List Int × Int) ⊕ (Unit)) ⊕ (List (List Int) × Int))
    ((getI l4 i5).bind fun s6 =>
      cond ((decide ((s6.length : Int) < 1)) || (decide ((s6.length : Int) > 63)))
      (some (.inl (.inl (.inl (([] : List Int), 2)))))
      ((getI s6 0).bind fun i7 =>
        cond (i7 == 45)
        (some (.inl (.inl (.inl (([] : List Int), 2)))))
        ((getI s6 (IntKind.i64.wrap ((s6.length : Int) - 1))).bind fun i8 =>
          cond (i8 == 45)
          (some (.inl (.inl (.inl (([] : List Int), 2)))))
          (loopC (S := List (List Int) × Int) (R := (((List Int × Int) ⊕ (Unit)) ⊕ (List (List Int) × Int)) ⊕ (List (List Int))) (F_wlvref15_Name_L17 s6) (l4, 0)))))
    (F_wlvref15_Name_J11 i5))
  (some (.inl (.inr ())))
noncomputable def F_wlvref15_Name_J6 (s2 : List Int) (s : Unit) : Option (List Int × Int) :=
  some (s2, 0)
noncomputable def F_wlvref15_Name (s1 : List Int) : Option (List Int × Int) :=
  cond ((decide ((s1.length : Int) < 1)) || (decide ((s1.length : Int) > 253)))
  (some (([] : List Int), 2))
  ((F_wlvref_Lower s1).bind fun s2 =>
    (F_wlvref_Split s2 46).bind fun l3 =>
    joinC (S := Unit) (R := List Int × Int)
    (loopC (S := List (List Int) × Int) (R := (List Int × Int) ⊕ (Unit)) (F_wlvref15_Name_L8) (l3, 0))
    (F_wlvref15_Name_J6 s2))
def F_wlvref15_Name_sig : Sig := ⟨[.v false [.d .str]], [(false, [.d .str]), (false, [.d (.int .i64)])]⟩
def F_wlvref15_Name_ann : List (Nat × Ann) := [(6, ⟨7, [], [], [2, 3, 5, 6, 7, 8, 21, 22, 23, 24, 25, 26, 27, 28, 29, 30, 31, 32, 33, 34, 35, 36, 37, 38, 39, 40, 41, 42, 43, 44, 45, 46, 47, 48, 49, 50, 51, 52, 53, 54, 55, 56, 57, 58, 59, 60, 61, 62, 63, 64, 65, 66, 67, 68, 69, 70, 71, 72, 73, 74, 75, 76, 77, 78, 79, 80, 81, 82], []⟩), (8, ⟨9, [(4, false, [.own 9 .str]), (5, false, [.d (.int .i64)])], [], [2, 3, 6, 7, 8, 21, 22, 23, 24, 25, 26, 27, 28, 29, 30, 31, 32, 33, 34, 35, 36, 37, 38, 39, 40, 41, 42, 43, 44, 45, 46, 47, 48, 49, 50, 51, 52, 53, 54, 55, 56, 57, 58, 59, 60, 61, 62, 63, 64, 65, 66, 67, 68, 69, 70, 71, 72, 73, 74, 75, 76, 77, 78, 79, 80, 81, 82], []⟩), (11, ⟨12, [(4, false, [.own 9 .str])], [], [2, 3, 6, 7, 8, 27, 28, 29, 30, 31, 32, 33, 34, 35, 36, 37, 38, 39, 40, 41, 42, 43, 44, 45, 46, 47, 48, 49, 50, 51, 52, 53, 54, 55, 56, 57, 58, 59, 60, 61, 62, 63, 64, 65, 66, 67, 68, 69, 70, 71, 72, 73, 74, 75, 76, 77, 78, 79, 80, 81, 82], []⟩), (17, ⟨18, [(4, false, [.own 9 .str]), (7, false, [.d (.int .i64)])], [], [2, 3, 8, 52, 53, 54, 55, 56, 57, 58, 59, 60, 61, 62, 63, 64, 65, 66, 67, 68, 69, 70, 71, 72, 73, 74, 75, 76, 77, 78, 79, 80, 81, 82], []⟩)]
noncomputable def F_wlvref15_Name_env : Env := ⟨Tryz.prog, [(55, ⟨F_wlvref_Split_sig, ⟨F_wlvref_Split⟩⟩), (141, ⟨F_wlvref_Lower_sig, ⟨F_wlvref_Lower⟩⟩)], []⟩
set_option maxRecDepth 100000 in
theorem F_wlvref15_Name_text : pvFn F_wlvref15_Name_env F_wlvref15_Name_ann Tryz.f103 F_wlvref15_Name_sig = F_wlvref15_Name := by kernel_rfl
end Go.Proofs.YtgfmfgombmpodaaGreatDoor

/- The functions of hosts and addresses in this seat: one name for the texts that hold them. -/

/- Numbers in decimal digits: what the reference and the library tell of them. -/
namespace Go.Proofs.YtgfmfgombmpodaaGreatDoor
open Pv
set_option linter.unusedVariables false
def isDig (c : Int) : Bool := decide (48 ≤ c) && decide (c ≤ 57)
def valI (s : List Int) : Int := s.foldl (fun a c => a * 10 + (c - 48)) 0
def canonB (s : List Int) : Bool := s.all isDig && match s with
  | [] => false
  | [_] => true
  | c :: _ => c != 48
theorem valI_snoc (s : List Int) (c : Int) : valI (s ++ [c]) = valI s * 10 + (c - 48) := by
  unfold valI
  rw [List.foldl_append]; rfl
theorem dig_of {c : Int} (h : isDig c = true) : 48 ≤ c ∧ c ≤ 57 := by
  simpa [isDig] using h
theorem valI_nn : ∀ (k : Nat) (s : List Int), s.length = k → s.all isDig = true → 0 ≤ valI s := fun k => by
  induction k with
  | zero => intro s h _; rw [List.length_eq_zero_iff.1 h]; decide
  | succ k ih =>
    intro s h hd
    rcases List.eq_nil_or_concat s with rfl | ⟨s', c, rfl⟩
    · decide
    · rw [List.concat_eq_append] at h hd ⊢
      rw [List.all_append, Bool.and_eq_true] at hd
      have hc := dig_of (c := c) (by simpa using hd.2)
      have := ih s' (by simp at h; omega) hd.1
      rw [valI_snoc]
      omega
def dgs (n : Nat) : List Int := (Lib.decDigits n).map byteI
theorem dgs_one {n : Nat} (h : n < 10) : dgs n = [48 + (n : Int)] := by
  unfold dgs
  rw [Lib.decDigits_one h]
  show [byteI (UInt8.ofNat (48 + n))] = _
  unfold byteI
  rw [UInt8.toNat_ofNat', Nat.mod_eq_of_lt (by omega)]
  congr 1
theorem dgs_more {n : Nat} (h : ¬ n < 10) : dgs n = dgs (n / 10) ++ [48 + ((n % 10 : Nat) : Int)] := by
  unfold dgs
  rw [Lib.decDigits, dif_neg h, List.map_append]
  congr 1
  show [byteI (UInt8.ofNat (48 + n % 10))] = _
  unfold byteI
  rw [UInt8.toNat_ofNat', Nat.mod_eq_of_lt (by omega)]
  congr 1
theorem itoa_dgs (n : Nat) : itoaI (n : Int) = dgs n := by
  unfold itoaI dgs
  rw [Lib.itoa_nonneg]
theorem dgs_spec : ∀ (k n : Nat), n < k → (dgs n).all isDig = true ∧ valI (dgs n) = n ∧ dgs n ≠ [] ∧ (1 ≤ n → (dgs n).head? ≠ some 48) := fun k => by
  induction k with
  | zero => intro n h; omega
  | succ k ih =>
    intro n h
    by_cases h10 : n < 10
    · rw [dgs_one h10]
      refine ⟨by simp [isDig]; omega, by simp [valI]; omega, by simp, fun h1 => ?_⟩
      show some (48 + (n : Int)) ≠ some 48
      intro e
      injection e with e
      omega
    · obtain ⟨a, b, c, d⟩ := ih (n / 10) (by omega)
      rw [dgs_more h10]
      refine ⟨?_, ?_, by simp, fun _ => ?_⟩
      · rw [List.all_append, a]
        simp [isDig]
        omega
      · rw [valI_snoc, b]
        omega
      · cases hq : dgs (n / 10) with
        | nil => exact absurd hq c
        | cons x r =>
          rw [hq] at d
          exact d (by omega)
theorem canon_dgs (n : Nat) : canonB (dgs n) = true := by
  obtain ⟨a, b, c, d⟩ := dgs_spec (n + 1) n (by omega)
  unfold canonB
  rw [a, Bool.true_and]
  by_cases h10 : n < 10
  · rw [dgs_one h10]
  · have hd := d (by omega)
    have hl : 2 ≤ (dgs n).length := by
      rw [dgs_more h10, List.length_append]
      have : 0 < (dgs (n / 10)).length := List.length_pos_iff.2 (dgs_spec (n / 10 + 1) (n / 10) (by omega)).2.2.1
      simp
      omega
    match hs : dgs n, hd, hl with
    | x :: y :: r, hd, _ =>
      show (x != 48) = true
      exact bne_iff_ne.2 fun e => hd (by rw [e]; rfl)
theorem val_pos : ∀ (k : Nat) (s : List Int), s.length = k → s.all isDig = true → (∃ c r, s = c :: r ∧ c ≠ 48) → 1 ≤ valI s := fun k => by
  induction k with
  | zero => intro s h _ ⟨c, r, e, _⟩; subst e; simp at h
  | succ k ih =>
    intro s h hd ⟨c, r, e, hc⟩
    rcases List.eq_nil_or_concat s with rfl | ⟨s', x, e'⟩
    · cases e
    · rw [List.concat_eq_append] at e'
      subst e'
      rw [List.all_append, Bool.and_eq_true] at hd
      have hx := dig_of (c := x) (by simpa using hd.2)
      rw [valI_snoc]
      cases s' with
      | nil =>
        have : x = c := by simpa using congrArg List.head? e
        subst this
        show 1 ≤ (0 : Int) * 10 + (x - 48)
        omega
      | cons c' r' =>
        have : c' = c := by simpa using congrArg List.head? e
        subst this
        have := ih (c' :: r') (by simp at h ⊢; omega) hd.1 ⟨c', r', rfl, hc⟩
        omega
/-- What is written without noughts ahead is how its number is written. -/
theorem canon_eq : ∀ (k : Nat) (s : List Int), s.length = k → canonB s = true → ∃ n : Nat, s = dgs n ∧ valI s = n := fun k => by
  induction k with
  | zero => intro s h hc; rw [List.length_eq_zero_iff.1 h] at hc; cases hc
  | succ k ih =>
    intro s h hc
    have hd : s.all isDig = true := by unfold canonB at hc; exact (Bool.and_eq_true _ _ ▸ hc).1
    rcases List.eq_nil_or_concat s with rfl | ⟨s', x, e'⟩
    · cases hc
    · rw [List.concat_eq_append] at e'
      subst e'
      have hd' := hd
      rw [List.all_append, Bool.and_eq_true] at hd'
      have hx := dig_of (c := x) (by simpa using hd'.2)
      cases s' with
      | nil =>
        refine ⟨(x - 48).toNat, ?_, ?_⟩
        · rw [dgs_one (by omega)]
          show [x] = _
          congr 1
          omega
        · show (0 : Int) * 10 + (x - 48) = _
          omega
      | cons c' r' =>
        have hne : c' ≠ 48 := by
          unfold canonB at hc
          rw [hd, Bool.true_and] at hc
          cases r' with
          | nil => exact bne_iff_ne.1 hc
          | cons => exact bne_iff_ne.1 hc
        have hcan : canonB (c' :: r') = true := by
          unfold canonB
          rw [hd'.1, Bool.true_and]
          cases r' with
          | nil => rfl
          | cons => exact bne_iff_ne.2 hne
        obtain ⟨n, h1, h2⟩ := ih (c' :: r') (by simp at h ⊢; omega) hcan
        have hp := val_pos _ (c' :: r') rfl hd'.1 ⟨c', r', rfl, hne⟩
        refine ⟨n * 10 + (x - 48).toNat, ?_, ?_⟩
        · rw [dgs_more (by omega), show (n * 10 + (x - 48).toNat) / 10 = n by omega, show (n * 10 + (x - 48).toNat) % 10 = (x - 48).toNat by omega, ← h1]
          congr 2
          omega
        · rw [valI_snoc, h2]
          omega
theorem parse_snoc (c : UInt8) : ∀ (l : List UInt8) (acc m : Nat), Lib.parseUint10 acc l = .ok m → Lib.parseUint10 acc (l ++ [c]) = Lib.parseUint10 m [c]
  | [], acc, m, h => by
    have : acc = m := by
      have h : Lib.NumEnd.ok acc = .ok m := h
      injection h
    subst this; rfl
  | x :: l, acc, m, h => by
    rw [List.cons_append]
    unfold Lib.parseUint10 at h ⊢
    split at h
    · rename_i h1
      rw [if_pos h1]
      split at h
      · cases h
      · rename_i h2
        rw [if_neg h2]
        split at h
        · cases h
        · rename_i h3
          rw [if_neg h3]
          rw [parse_snoc c l _ m h]
          rfl
    · cases h
theorem parse_dec : ∀ (k n : Nat), n < k → n < 18446744073709551616 → Lib.parseUint10 0 (Lib.decDigits n) = .ok n := fun k => by
  induction k with
  | zero => intro n h; omega
  | succ k ih =>
    intro n h hn
    have hc : (UInt8.ofNat (48 + n % 10)).toNat = 48 + n % 10 := by rw [UInt8.toNat_ofNat', Nat.mod_eq_of_lt (by omega)]
    have step : ∀ acc, acc = n / 10 → Lib.parseUint10 acc [UInt8.ofNat (48 + n % 10)] = .ok n := fun acc e => by
      unfold Lib.parseUint10
      rw [hc, if_pos (by omega), if_neg (by omega), if_neg (by omega)]
      show Lib.NumEnd.ok _ = _
      congr 1
      omega
    rw [Lib.decDigits]
    by_cases h10 : n < 10
    · rw [dif_pos h10]
      have := step 0 (by omega)
      rwa [Nat.mod_eq_of_lt h10] at this
    · rw [dif_neg h10, parse_snoc _ _ _ _ (ih (n / 10) (by omega) (by omega))]
      exact step _ rfl
theorem dec_cons (n : Nat) : ∃ c r, Lib.decDigits n = c :: r ∧ c.toNat ≠ 43 ∧ c.toNat ≠ 45 := by
  obtain ⟨a, b, c, d⟩ := dgs_spec (n + 1) n (by omega)
  cases h : Lib.decDigits n with
  | nil => exact absurd (by unfold dgs; rw [h]; rfl) c
  | cons x r =>
    refine ⟨x, r, rfl, ?_⟩
    unfold dgs at a
    rw [h, List.map_cons, List.all_cons, Bool.and_eq_true] at a
    have := dig_of a.1
    unfold byteI at this
    omega
theorem toB_dgs (n : Nat) : toB (dgs n) = Lib.decDigits n := by
  unfold toB dgs
  rw [List.map_map]
  conv => rhs; rw [← List.map_id (Lib.decDigits n)]
  apply List.map_congr_left
  intro b _
  show (((b.toNat : Nat) : Int).toNat).toUInt8 = b
  rw [Int.toNat_natCast, Nat.toUInt8_eq, UInt8.ofNat_toNat]
theorem atoi_dgs (n : Nat) (h : n < 9223372036854775808) : atoiP (dgs n) = ((n : Int), false) := by
  unfold atoiP
  rw [toB_dgs]
  obtain ⟨c, r, h1, h2, h3⟩ := dec_cons n
  have hp := parse_dec (n + 1) n (by omega) (by omega)
  have : Lib.atoiAll (Lib.decDigits n) = .ok (n : Int) := by
    rw [h1, Lib.atoiAll_plain c r h2 h3, ← h1]
    unfold Lib.parseMag
    rw [if_neg (by rw [h1]; simp), hp]
    unfold Lib.signless
    simp
    omega
  rw [this]
/-- A number up to a bound, as the library tells it. -/
theorem decimal_law (s : List Int) (most : Int) (hm : most ≤ 9223372036854775807) :
    (canonB s = true ∧ valI s ≤ most → (atoiP s).2 = false ∧ (atoiP s).1 = valI s ∧ itoaI (valI s) = s) ∧
    ((atoiP s).2 = false → 0 ≤ (atoiP s).1 → (atoiP s).1 ≤ most → itoaI (atoiP s).1 = s → canonB s = true ∧ valI s = (atoiP s).1) := by
  refine ⟨fun ⟨hc, hv⟩ => ?_, fun h1 h2 h3 h4 => ?_⟩
  · obtain ⟨n, e1, e2⟩ := canon_eq _ s rfl hc
    rw [e2] at hv ⊢
    rw [itoa_dgs, e1, atoi_dgs n (by omega)]
    exact ⟨rfl, rfl, rfl⟩
  · obtain ⟨n, hn⟩ : ∃ n : Nat, (atoiP s).1 = n := ⟨(atoiP s).1.toNat, by omega⟩
    rw [hn, itoa_dgs] at h4
    rw [hn, ← h4]
    exact ⟨canon_dgs n, (dgs_spec (n + 1) n (by omega)).2.1⟩
theorem dgs_len : ∀ (k n : Nat), n < 10 ^ (k + 1) → (dgs n).length ≤ k + 1 := fun k => by
  induction k with
  | zero => intro n h; rw [dgs_one (by omega)]; simp
  | succ k ih =>
    intro n h
    by_cases h10 : n < 10
    · rw [dgs_one h10]; simp
    · rw [dgs_more h10, List.length_append]
      have := ih (n / 10) (by
        rw [Nat.pow_succ] at h
        omega)
      simp
      omega
end Go.Proofs.YtgfmfgombmpodaaGreatDoor

/- Rules for the loops of plain functions. -/
namespace Go.Proofs.YtgfmfgombmpodaaGreatDoor
namespace Pv
set_option linter.unusedVariables false
section
variable {S R T : Type} {body : S → Option (R ⊕ S)} {s s' : S} {r r' : R}
theorem iter_uniq : ∀ {n m : Nat} {s : S}, iterC body n s = some r → iterC body m s = some r' → r = r'
  | 0, _, _, h, _ => by cases h
  | _ + 1, 0, _, _, h => by cases h
  | n + 1, m + 1, s, h, k => by
    unfold iterC at h k
    split at h
    · cases h
    · rename_i x hx
      rw [hx] at k
      injection h with h; injection k with k
      exact h.symm.trans k
    · rename_i x hx
      rw [hx] at k
      exact iter_uniq h k
theorem loop_of_iter {n : Nat} (h : iterC body n s = some r) : loopC body s = some r := by
  unfold loopC
  have hex : ∃ r n, iterC body n s = some r := ⟨r, n, h⟩
  rw [dif_pos hex]
  obtain ⟨m, hm⟩ := hex.choose_spec
  rw [iter_uniq hm h]
theorem iter_of_loop' (h : loopC body s = some r) : ∃ n, iterC body n s = some r := by
  unfold loopC at h
  split at h
  · rename_i hex
    injection h with h
    obtain ⟨n, hn⟩ := hex.choose_spec
    exact ⟨n, by rw [hn, h]⟩
  · cases h
theorem loop_inl (h : body s = some (.inl r)) : loopC body s = some r := loop_of_iter (n := 1) (by unfold iterC; rw [h])
theorem loop_inr (h : body s = some (.inr s')) (k : loopC body s' = some r) : loopC body s = some r := by
  obtain ⟨n, hn⟩ := iter_of_loop' k
  exact loop_of_iter (n := n + 1) (by unfold iterC; rw [h]; exact hn)
theorem loop_inv {I : S → Prop} {m : S → Nat} {Q : R → Prop} (h : ∀ s, I s → (∃ r, body s = some (.inl r) ∧ Q r) ∨ ∃ s', body s = some (.inr s') ∧ I s' ∧ m s' < m s) (s : S) (hs : I s) : ∃ r, loopC body s = some r ∧ Q r := by
  have key : ∀ n s, m s < n → I s → ∃ r, loopC body s = some r ∧ Q r := fun n => by
    induction n with
    | zero => intro s hn; omega
    | succ n ih =>
      intro s hn hs
      rcases h s hs with ⟨r, h1, h2⟩ | ⟨s', h1, h2, h3⟩
      · exact ⟨r, loop_inl h1, h2⟩
      · obtain ⟨r, k1, k2⟩ := ih s' (by omega) h2
        exact ⟨r, loop_inr h1 k1, k2⟩
  exact key _ s (Nat.lt_succ_self _) hs
theorem join_inl {A : Option (R ⊕ S)} {B : S → Option R} (h : A = some (.inl r)) : joinC A B = some r := by rw [h]; rfl
theorem join_inr {A : Option (R ⊕ S)} {B : S → Option R} (h : A = some (.inr s)) : joinC A B = B s := by rw [h]; rfl
theorem getI_of {α : Type} {l : List α} {j : Int} (h0 : 0 ≤ j) (h1 : j < l.length) : ∃ x, getI l j = some x ∧ l[j.toNat]? = some x := by
  have hlt : j.toNat < l.length := by omega
  exact ⟨l[j.toNat], by unfold getI; rw [decide_eq_true h0]; simp [hlt], by simp [hlt]⟩
theorem wrap_in {x : Int} (h0 : -9223372036854775808 ≤ x) (h1 : x ≤ 9223372036854775807) : IntKind.i64.wrap x = x := by
  show (if (true && decide (x % 18446744073709551616 ≥ 9223372036854775808)) = true then x % 18446744073709551616 - 18446744073709551616 else x % 18446744073709551616) = x
  simp only [Bool.true_and, decide_eq_true_eq]
  split <;> omega
end
end Pv
end Go.Proofs.YtgfmfgombmpodaaGreatDoor

/- Texts in parts and numbers, of the program and of the reference, in plain words. -/
namespace Go.Proofs.YtgfmfgombmpodaaGreatDoor
open Pv
set_option linter.unusedVariables false
theorem cutI_nat {α : Type} {s : List α} {a b : Nat} (h1 : a ≤ b) (h2 : b ≤ s.length) : cutI s (a : Int) (b : Int) = some ((s.take b).drop a) := by
  unfold cutI
  rw [decide_eq_true (show (0 : Int) ≤ (a : Int) by omega), decide_eq_true (show (a : Int) ≤ (b : Int) by omega), decide_eq_true (show (b : Int) ≤ (s.length : Int) by omega)]
  rfl
theorem getI_nat {α : Type} {s : List α} {i : Nat} {x : α} (h : s[i]? = some x) : getI s (i : Int) = some x := by
  unfold getI
  rw [decide_eq_true (by omega), cond_true, Int.toNat_natCast, h]
theorem chk16 {a b : Nat} (h : a + b ≤ 10000000) : (decide ((a + b) * 16 ≤ 140737488355328) && decide (a + b ≤ maxLen)) = true := by
  rw [decide_eq_true (by omega), decide_eq_true (by have : maxLen = 9223372036854775807 := rfl; omega)]; rfl
theorem chk1 {a b : Nat} (h : a + b ≤ 10000000) : (decide ((a + b) * 1 ≤ 140737488355328) && decide (a + b ≤ maxLen)) = true := by
  rw [decide_eq_true (by omega), decide_eq_true (by have : maxLen = 9223372036854775807 := rfl; omega)]; rfl
/-! ### parts -/
theorem Split_eq (s : List Int) (c : Int) (hs : s.length ≤ 1000000) : F_wlvref_Split s c = some (splitI s c) := by
  obtain ⟨r, h1, h2⟩ := loop_inv (body := F_wlvref_Split_L5 s c)
    (I := fun st => ∃ (l : List (List Int)) (f i : Nat), st = (l, (f : Int), (i : Int)) ∧ ((i ≤ s.length ∧ f ≤ i ∧ l.length ≤ i ∧ (∀ x ∈ (s.take i).drop f, x ≠ c) ∧ splitI s c = l ++ splitI (s.drop f) c) ∨ (i = s.length + 1 ∧ l = splitI s c)))
    (m := fun st => s.length + 1 - st.2.2.toNat) (Q := fun q => q = .inr (splitI s c)) (fun st ⟨l, f, i, e, h⟩ => by
    subst e
    unfold F_wlvref_Split_L5
    dsimp only
    rcases h with ⟨h1, h2, h3, h4, h5⟩ | ⟨h1, h2⟩
    · rw [decide_eq_true (show (i : Int) ≤ (s.length : Int) by omega), cond_true]
      have hw : IntKind.i64.wrap ((i : Int) + 1) = ((i + 1 : Nat) : Int) := by rw [wrap_in (by omega) (by omega)]; omega
      have hcut := cutI_nat (s := s) h2 h1
      unfold chk
      rw [hw]
      by_cases hl : i = s.length
      · rw [show ((i : Int) == (s.length : Int)) = true from beq_iff_eq.2 (by omega), cond_true, hcut, Option.bind_some, chk16 (by show l.length + 1 ≤ _; omega), cond_true]
        refine .inr ⟨_, rfl, ⟨_, i + 1, i + 1, rfl, .inr ⟨by omega, ?_⟩⟩, ?_⟩
        · rw [List.take_of_length_le (by omega)] at h4 ⊢
          rw [h5, splitI_miss h4]
        · show s.length + 1 - ((i + 1 : Nat) : Int).toNat < s.length + 1 - (i : Int).toNat
          omega
      · have hlt : i < s.length := by omega
        rw [show ((i : Int) == (s.length : Int)) = false from beq_eq_false_iff_ne.2 (by omega), cond_false, getI_nat (List.getElem?_eq_getElem hlt), Option.bind_some]
        have hm : s.length + 1 - ((i + 1 : Nat) : Int).toNat < s.length + 1 - (i : Int).toNat := by omega
        have hsp : s.drop f = (s.take i).drop f ++ s[i] :: s.drop (i + 1) := by
          have e1 : s = s.take i ++ s[i] :: s.drop (i + 1) := by rw [List.getElem_cons_drop, List.take_append_drop]
          conv => lhs; rw [e1]
          rw [List.drop_append_of_le_length (by rw [List.length_take]; omega)]
        by_cases hc : s[i] = c
        · rw [show (s[i] == c) = true from beq_iff_eq.2 hc, cond_true, hcut, Option.bind_some, chk16 (by show l.length + 1 ≤ _; omega), cond_true]
          refine .inr ⟨_, rfl, ⟨_, i + 1, i + 1, rfl, .inl ⟨by omega, by omega, by simp; omega, ?_, ?_⟩⟩, hm⟩
          · rw [List.drop_of_length_le (by rw [List.length_take]; omega)]
            intro x hx; cases hx
          · rw [h5, hsp, hc, splitI_hit h4, List.append_assoc]; rfl
        · rw [show (s[i] == c) = false from beq_eq_false_iff_ne.2 hc, cond_false]
          refine .inr ⟨_, rfl, ⟨l, f, i + 1, rfl, .inl ⟨by omega, by omega, by omega, ?_, h5⟩⟩, hm⟩
          intro x hx
          rw [List.take_add_one, List.getElem?_eq_getElem hlt, List.drop_append_of_le_length (by rw [List.length_take]; omega)] at hx
          rcases List.mem_append.1 hx with hx | hx
          · exact h4 x hx
          · have : x = s[i] := by simpa using hx
            rw [this]; exact hc
    · rw [decide_eq_false (by omega), cond_false]
      exact .inl ⟨_, rfl, by rw [h2]⟩) (([] : List (List Int)), 0, 0) ⟨[], 0, 0, rfl, .inl ⟨by omega, by omega, by simp, by simp, rfl⟩⟩
  subst h2
  unfold F_wlvref_Split
  rw [h1]
  rfl
theorem SplitL_eq (s : List Int) (c : Int) (hs : s.length ≤ 1000000) : F_strings_Split s [c] = some (splitI s c) := by
  show cond (Nat.ble s.length 4000000000) (some (splitI s c)) none = _
  rw [Nat.ble_eq_true_of_le (by omega)]; rfl
/-! ### numbers -/
theorem decimal_eq (s : List Int) (most : Int) (hs : s.length ≤ 1000000) (hm : most ≤ 9223372036854775807) :
    ∃ x, F_addr_decimal s most = some (x, canonB s && decide (valI s ≤ most)) ∧ (canonB s = true → valI s ≤ most → x = valI s) := by
  obtain ⟨k1, k2⟩ := decimal_law s most hm
  unfold F_addr_decimal
  have ha : F_strconv_Atoi s = some (atoiP s) := by
    unfold F_strconv_Atoi
    rw [Nat.ble_eq_true_of_le (by omega)]; rfl
  rw [ha, Option.bind_some]
  refine ⟨(atoiP s).1, ?_, fun h1 h2 => (k1 ⟨h1, h2⟩).2.1⟩
  cases hc : (canonB s && decide (valI s ≤ most)) with
  | true =>
    rw [Bool.and_eq_true, decide_eq_true_iff] at hc
    obtain ⟨q1, q2, q3⟩ := k1 hc
    have hp := valI_nn _ s rfl (by have := hc.1; unfold canonB at this; exact (Bool.and_eq_true _ _ ▸ this).1)
    rw [q1, q2, decide_eq_true (show valI s ≥ 0 from hp), decide_eq_true hc.2]
    rw [show (notB false && true && true) = true from rfl, cond_true]
    unfold F_strconv_Itoa
    rw [Option.bind_some, q3, beq_self_eq_true]
  | false =>
    cases hq : (notB (atoiP s).2 && decide ((atoiP s).1 ≥ 0)) && decide ((atoiP s).1 ≤ most) with
    | false => rfl
    | true =>
      rw [cond_true]
      unfold F_strconv_Itoa
      rw [Option.bind_some]
      have hq' := hq
      rw [Bool.and_eq_true, Bool.and_eq_true, decide_eq_true_iff, decide_eq_true_iff] at hq'
      cases he : itoaI (atoiP s).1 == s with
      | false => rfl
      | true =>
        exfalso
        obtain ⟨r1, r2⟩ := k2 (by
          have := hq'.1.1
          cases hb : (atoiP s).2 with
          | false => rfl
          | true => rw [hb] at this; cases this) hq'.1.2 hq'.2 (beq_iff_eq.1 he)
        rw [r1, r2, decide_eq_true hq'.2] at hc
        cases hc
theorem val_lt : ∀ (k : Nat) (s : List Int), s.length = k → s.all isDig = true → valI s < 10 ^ k := fun k => by
  induction k with
  | zero => intro s h _; rw [List.length_eq_zero_iff.1 h]; decide
  | succ k ih =>
    intro s h hd
    rcases List.eq_nil_or_concat s with rfl | ⟨s', c, rfl⟩
    · simp at h
    · rw [List.concat_eq_append] at h hd ⊢
      rw [List.all_append, Bool.and_eq_true] at hd
      have hc := dig_of (c := c) (by simpa using hd.2)
      have := ih s' (by simp at h; omega) hd.1
      rw [valI_snoc, Int.pow_succ]
      omega
theorem u8_in {x : Int} (h0 : 0 ≤ x) (h1 : x ≤ 255) : IntKind.u8.wrap x = x := by
  show (if (false && decide (x % 256 ≥ 128)) = true then x % 256 - 256 else x % 256) = x
  simp
  omega
theorem Num_loop (s : List Int) (h17 : s.length ≤ 17) : loopC (F_wlvref_Num_L7 s) (0, 0) = some (cond (s.all isDig) (.inr (valI s)) (.inl (0, false))) := by
  obtain ⟨r, h1, h2⟩ := loop_inv (body := F_wlvref_Num_L7 s) (I := fun st => ∃ i : Nat, i ≤ s.length ∧ (s.take i).all isDig = true ∧ st = (valI (s.take i), (i : Int))) (m := fun st => s.length - st.2.toNat) (Q := fun q => q = cond (s.all isDig) (.inr (valI s)) (.inl (0, false))) (fun st ⟨i, hi, hd, e⟩ => by
    subst e
    unfold F_wlvref_Num_L7
    dsimp only
    by_cases hl : i < s.length
    · have hg := getI_nat (List.getElem?_eq_getElem hl)
      rw [decide_eq_true (by omega), cond_true, hg, Option.bind_some]
      have hall : isDig s[i] = false → s.all isDig = false := fun h => by
        rw [List.all_eq_false]
        exact ⟨s[i], List.getElem_mem hl, by rw [h]; decide⟩
      by_cases h48 : s[i] < 48
      · rw [decide_eq_true h48, cond_true, hall (by unfold isDig; rw [decide_eq_false (by omega)]; rfl)]
        exact .inl ⟨_, rfl, rfl⟩
      · rw [decide_eq_false h48, cond_false, Option.bind_some]
        by_cases h57 : s[i] > 57
        · rw [decide_eq_true h57, cond_true, hall (by unfold isDig; rw [decide_eq_false (show ¬ s[i] ≤ 57 by omega), Bool.and_false])]
          exact .inl ⟨_, rfl, rfl⟩
        · rw [decide_eq_false h57, cond_false, Option.bind_some]
          have hv0 := valI_nn _ (s.take i) rfl hd
          have hv1 := val_lt _ (s.take i) rfl hd
          have hv2 : (10 : Int) ^ (s.take i).length ≤ 10 ^ 17 := by
            rw [List.length_take]
            have : (10 : Nat) ^ (min i s.length) ≤ 10 ^ 17 := Nat.pow_le_pow_right (by omega) (by omega)
            exact_mod_cast this
          have hv3 : (10 : Int) ^ 17 = 100000000000000000 := by decide
          have ht : s.take (i + 1) = s.take i ++ [s[i]] := by rw [List.take_add_one, List.getElem?_eq_getElem hl]; rfl
          refine .inr ⟨_, rfl, ⟨i + 1, by omega, ?_, ?_⟩, ?_⟩
          · rw [ht, List.all_append, hd]
            simp [isDig]
            omega
          · rw [ht, valI_snoc, u8_in (by omega) (by omega), wrap_in (x := valI (s.take i) * 10) (by omega) (by omega), wrap_in (x := s[i] - 48) (by omega) (by omega), wrap_in (by omega) (by omega), wrap_in (by omega) (by omega)]
            rfl
          · show s.length - (IntKind.i64.wrap ((i : Int) + 1)).toNat < s.length - (i : Int).toNat
            rw [wrap_in (by omega) (by omega)]
            omega
    · rw [decide_eq_false (by omega), cond_false]
      rw [List.take_of_length_le (by omega)] at hd
      refine .inl ⟨_, rfl, ?_⟩
      rw [hd, cond_true, List.take_of_length_le (by omega)]) (0, 0) ⟨0, by omega, by simp, by simp [valI]⟩
  rw [h1, h2]
theorem Num_eq (s : List Int) (lo hi : Int) :
    ∃ x, F_wlvref_Num s lo hi = some (x, canonB s && decide (s.length ≤ 17) && (decide (lo ≤ valI s) && decide (valI s ≤ hi))) ∧ (canonB s = true → s.length ≤ 17 → x = valI s) := by
  unfold F_wlvref_Num
  match s with
  | [] => exact ⟨0, rfl, fun h => by cases h⟩
  | c :: r =>
    by_cases h17 : (c :: r).length ≤ 17
    · have : (decide (((c :: r).length : Int) < 1) || decide (((c :: r).length : Int) > 17)) = false := by simp at h17 ⊢; omega
      rw [this, cond_false, decide_eq_true h17, Bool.and_true]
      have key : joinC (S := Int) (R := Int × Bool) (loopC (S := Int × Int) (R := (Int × Bool) ⊕ (Int)) (F_wlvref_Num_L7 (c :: r)) (0, 0)) (F_wlvref_Num_J5 lo hi) = some (cond ((c :: r).all isDig) (valI (c :: r), decide (lo ≤ valI (c :: r)) && decide (valI (c :: r) ≤ hi)) (0, false)) := by
        rw [Num_loop _ h17]
        cases (c :: r).all isDig <;> rfl
      cases r with
      | nil =>
        rw [decide_eq_false (by simp), cond_false, key]
        have hcan : canonB [c] = [c].all isDig := by unfold canonB; rw [Bool.and_true]
        rw [hcan]
        cases hd : [c].all isDig with
        | true => exact ⟨_, rfl, fun _ _ => rfl⟩
        | false => exact ⟨_, rfl, fun h => by cases h⟩
      | cons d r =>
        have hcan : canonB (c :: d :: r) = ((c :: d :: r).all isDig && (c != 48)) := rfl
        rw [decide_eq_true (by simp; omega), cond_true, show getI (c :: d :: r) 0 = some c from rfl, Option.bind_some, key, hcan]
        by_cases h48 : c = 48
        · rw [beq_iff_eq.2 h48, cond_true, show (c != 48) = false by rw [h48]; rfl, Bool.and_false]
          exact ⟨_, rfl, fun h => by cases h⟩
        · rw [beq_eq_false_iff_ne.2 h48, cond_false, bne_iff_ne.2 h48, Bool.and_true]
          cases hd : (c :: d :: r).all isDig with
          | true => exact ⟨_, rfl, fun _ _ => rfl⟩
          | false => exact ⟨_, rfl, fun h => by cases h⟩
    · have : (decide (((c :: r).length : Int) < 1) || decide (((c :: r).length : Int) > 17)) = true := by simp at h17 ⊢; omega
      rw [this, cond_true, decide_eq_false h17, Bool.and_false]
      exact ⟨_, rfl, fun _ h => absurd h h17⟩
end Go.Proofs.YtgfmfgombmpodaaGreatDoor

/- Addresses of four bytes, and texts without a colon. -/
namespace Go.Proofs.YtgfmfgombmpodaaGreatDoor
open Pv
set_option linter.unusedVariables false
def byteB (w : List Int) : Bool := canonB w && decide (valI w ≤ 255)
def fourR (s : List Int) : List Int × Bool := cond (decide ((splitI s 46).length = 4) && (splitI s 46).all byteB) ((splitI s 46).map valI, true) ([], false)
theorem byte_val {w : List Int} (h : byteB w = true) : 0 ≤ valI w ∧ valI w ≤ 255 := by
  unfold byteB at h
  rw [Bool.and_eq_true, decide_eq_true_iff] at h
  have := h.1
  unfold canonB at this
  exact ⟨valI_nn _ w rfl (Bool.and_eq_true _ _ ▸ this).1, h.2⟩
theorem split_mem_len {s w : List Int} {c : Int} (h : w ∈ splitI s c) : w.length ≤ s.length := by
  have h1 := splitI_sum s c
  have h2 : w.length ≤ ((splitI s c).map List.length).sum := mem_sum (List.mem_map.2 ⟨w, h, rfl⟩)
  have h3 : 0 < (splitI s c).length := List.length_pos_iff.2 (splitI_ne s c)
  omega
theorem all_snoc {l : List (List Int)} {i : Nat} {w : List Int} (h : l[i]? = some w) (ha : (l.take i).all byteB = true) (hw : byteB w = true) : (l.take (i + 1)).all byteB = true := by
  rw [List.take_add_one, h, List.all_append, ha]
  simp [hw]
theorem all_bad {l : List (List Int)} {i : Nat} {w : List Int} (h : l[i]? = some w) (hw : byteB w = false) : l.all byteB = false := by
  rw [List.all_eq_false]
  exact ⟨w, List.mem_of_getElem? h, by rw [hw]; decide⟩
theorem map_snoc {l : List (List Int)} {i : Nat} {w : List Int} (h : l[i]? = some w) : (l.take (i + 1)).map valI = (l.take i).map valI ++ [valI w] := by
  rw [List.take_add_one, h, List.map_append]; rfl
theorem dotted_loop (l : List (List Int)) (hl : l.length = 4) (hw : ∀ w ∈ l, w.length ≤ 1000000) : loopC (F_addr_dotted_L8 l) (([] : List Int), l, 0) = some (cond (l.all byteB) (.inr (l.map valI)) (.inl ([], false))) := by
  obtain ⟨r, h1, h2⟩ := loop_inv (body := F_addr_dotted_L8 l) (I := fun st => ∃ i : Nat, i ≤ 4 ∧ (l.take i).all byteB = true ∧ st = ((l.take i).map valI, l, (i : Int))) (m := fun st => 4 - st.2.2.toNat) (Q := fun q => q = cond (l.all byteB) (.inr (l.map valI)) (.inl ([], false))) (fun st ⟨i, hi, hd, e⟩ => by
    subst e
    unfold F_addr_dotted_L8
    dsimp only
    by_cases hlt : i < 4
    · have hg := List.getElem?_eq_getElem (l := l) (i := i) (by omega)
      obtain ⟨x, hx1, hx2⟩ := decimal_eq l[i] 255 (hw _ (List.getElem_mem _)) (by omega)
      rw [show (canonB l[i] && decide (valI l[i] ≤ 255)) = byteB l[i] from rfl] at hx1
      rw [decide_eq_true (by omega), cond_true, getI_nat hg, Option.bind_some, hx1, Option.bind_some]
      cases hb : byteB l[i] with
      | false =>
        rw [all_bad hg hb]
        exact .inl ⟨_, rfl, rfl⟩
      | true =>
        have hv := byte_val hb
        have hxv : x = valI l[i] := by
          unfold byteB at hb
          rw [Bool.and_eq_true, decide_eq_true_iff] at hb
          exact hx2 hb.1 hb.2
        subst hxv
        unfold chk
        rw [Bool.not_true, cond_false, chk1 (by rw [List.length_map, List.length_take]; show _ + 1 ≤ _; omega), cond_true, u8_in hv.1 hv.2, wrap_in (by omega) (by omega)]
        refine .inr ⟨_, rfl, ⟨i + 1, by omega, all_snoc hg hd hb, by rw [map_snoc hg]; rfl⟩, ?_⟩
        show 4 - ((i : Int) + 1).toNat < 4 - (i : Int).toNat
        omega
    · rw [decide_eq_false (by omega), cond_false]
      rw [List.take_of_length_le (by omega)] at hd
      refine .inl ⟨_, rfl, ?_⟩
      rw [hd, cond_true, List.take_of_length_le (by omega)]) (([] : List Int), l, 0) ⟨0, by omega, by simp, by simp⟩
  rw [h1, h2]
theorem dotted_eq (s : List Int) (hs : s.length ≤ 1000000) : F_addr_dotted s = some (fourR s) := by
  unfold F_addr_dotted fourR
  rw [SplitL_eq s 46 hs, Option.bind_some]
  by_cases h4 : (splitI s 46).length = 4
  · rw [show (((splitI s 46).length : Int) != 4) = false by rw [h4]; rfl, cond_false, decide_eq_true h4, Bool.true_and, dotted_loop _ h4 fun w hw => by have := split_mem_len hw; omega]
    cases (splitI s 46).all byteB <;> rfl
  · rw [show (((splitI s 46).length : Int) != 4) = true from bne_iff_ne.2 (by omega), cond_true, decide_eq_false h4]
    rfl
theorem byte_num (w : List Int) : (canonB w && decide (w.length ≤ 17) && (decide (0 ≤ valI w) && decide (valI w ≤ 255))) = byteB w := by
  unfold byteB
  cases hc : canonB w with
  | false => rfl
  | true =>
    by_cases hv : valI w ≤ 255
    · obtain ⟨n, h1, h2⟩ := canon_eq _ w rfl hc
      have := dgs_len 2 n (by omega)
      rw [← h1] at this
      rw [decide_eq_true (show w.length ≤ 17 by omega), decide_eq_true hv, decide_eq_true (by omega)]; rfl
    · rw [decide_eq_false hv]
      simp
theorem four_loop (l : List (List Int)) (hl : l.length = 4) : loopC F_wlvref15_four_L8 (l, ([] : List Int), 0) = some (cond (l.all byteB) (.inr (l.map valI)) (.inl ([], false))) := by
  obtain ⟨r, h1, h2⟩ := loop_inv (body := F_wlvref15_four_L8) (I := fun st => ∃ i : Nat, i ≤ 4 ∧ (l.take i).all byteB = true ∧ st = (l, (l.take i).map valI, (i : Int))) (m := fun st => 4 - st.2.2.toNat) (Q := fun q => q = cond (l.all byteB) (.inr (l.map valI)) (.inl ([], false))) (fun st ⟨i, hi, hd, e⟩ => by
    subst e
    unfold F_wlvref15_four_L8
    dsimp only
    by_cases hlt : i < 4
    · have hg := List.getElem?_eq_getElem (l := l) (i := i) (by omega)
      obtain ⟨x, hx1, hx2⟩ := Num_eq l[i] 0 255
      rw [byte_num] at hx1
      rw [decide_eq_true (by omega), cond_true, getI_nat hg, Option.bind_some, hx1, Option.bind_some]
      cases hb : byteB l[i] with
      | false =>
        rw [all_bad hg hb]
        exact .inl ⟨_, rfl, rfl⟩
      | true =>
        have hv := byte_val hb
        have hxv : x = valI l[i] := by
          have hq := byte_num l[i]
          rw [hb, Bool.and_eq_true, Bool.and_eq_true, decide_eq_true_iff] at hq
          exact hx2 hq.1.1 hq.1.2
        subst hxv
        unfold chk
        rw [Bool.not_true, cond_false, chk1 (by rw [List.length_map, List.length_take]; show _ + 1 ≤ _; omega), cond_true, u8_in hv.1 hv.2, wrap_in (by omega) (by omega)]
        refine .inr ⟨_, rfl, ⟨i + 1, by omega, all_snoc hg hd hb, by rw [map_snoc hg]; rfl⟩, ?_⟩
        show 4 - ((i : Int) + 1).toNat < 4 - (i : Int).toNat
        omega
    · rw [decide_eq_false (by omega), cond_false]
      rw [List.take_of_length_le (by omega)] at hd
      refine .inl ⟨_, rfl, ?_⟩
      rw [hd, cond_true, List.take_of_length_le (by omega)]) (l, ([] : List Int), 0) ⟨0, by omega, by simp, by simp⟩
  rw [h1, h2]
theorem four_eq (s : List Int) (hs : s.length ≤ 1000000) : F_wlvref15_four s = some (fourR s) := by
  unfold F_wlvref15_four fourR
  rw [Split_eq s 46 hs, Option.bind_some]
  by_cases h4 : (splitI s 46).length = 4
  · rw [show (((splitI s 46).length : Int) != 4) = false by rw [h4]; rfl, cond_false, decide_eq_true h4, Bool.true_and, four_loop _ h4]
    cases (splitI s 46).all byteB <;> rfl
  · rw [show (((splitI s 46).length : Int) != 4) = true from bne_iff_ne.2 (by omega), cond_true, decide_eq_false h4]
    rfl
end Go.Proofs.YtgfmfgombmpodaaGreatDoor

/- host.Name in plain words; the first input. -/
namespace Go.Proofs.YtgfmfgombmpodaaGreatDoor
open Pv
set_option linter.unusedVariables false
theorem cond_ex {b : Bool} {x y : Option Int} (hx : ∃ d, x = some d) (hy : ∃ d, y = some d) : ∃ d, cond b x y = some d := by
  cases b
  · exact hy
  · exact hx
theorem some_ex (x : Int) : ∃ d, some x = some d := ⟨x, rfl⟩
noncomputable def sg (c : Int) : Int := (F_host_sign c).getD 0
theorem sign_eq (c : Int) : F_host_sign c = some (sg c) := by
  have : ∃ d, F_host_sign c = some d := by
    unfold F_host_sign
    repeat' (first | with_reducible exact some_ex _ | with_reducible apply cond_ex)
  obtain ⟨d, hd⟩ := this
  unfold sg
  rw [hd]; rfl
def endsB (out : List Int) (n : Nat) : Bool := n == 0 || out.getLast? == some 45
noncomputable def nameP : List Int → Nat → List Int → Option (List Int)
  | out, n, [] => cond (endsB out n) none (some out)
  | out, n, c :: r => cond (c == 46) (cond (endsB out n) none (nameP (out ++ [46]) 0 r)) (cond (sg c == 0 || n == 63 || (sg c == 45 && n == 0)) none (nameP (out ++ [sg c]) (n + 1) r))
def resN : Option (List Int) → List Int × Int
  | none => ([], 2)
  | some b => (b, 0)
noncomputable def nameR (s : List Int) : List Int × Int := resN (cond (decide (253 < s.length)) none (nameP [] 0 s))
theorem name_wrong (s : List Int) (x : List Int × Int × Int) : loopC (F_host_Name_G1 s) (0, x) = some ([], 2) := loop_inl rfl
theorem last_of {out : List Int} (h : out ≠ []) (hl : out.length ≤ 1000) : ∃ x, getI out (IntKind.i64.wrap ((out.length : Int) - 1)) = some x ∧ out.getLast? = some x := by
  have : 0 < out.length := List.length_pos_iff.2 h
  rw [wrap_in (by omega) (by omega)]
  obtain ⟨x, h1, h2⟩ := getI_of (l := out) (j := (out.length : Int) - 1) (by omega) (by omega)
  refine ⟨x, h1, ?_⟩
  rw [List.getLast?_eq_getElem?, ← h2]
  congr 1
  omega
theorem chk_out {a b : Nat} (h : a + b ≤ 1000000) : (decide ((a + b) * 1 ≤ 140737488355328) && decide (a + b ≤ maxLen)) = true := by
  rw [decide_eq_true (by omega), decide_eq_true (by have : maxLen = 9223372036854775807 := rfl; omega)]; rfl
theorem beq_nat (a b : Nat) : ((a : Int) == (b : Int)) = (a == b) := by
  by_cases h : a = b
  · subst h; simp
  · rw [beq_eq_false_iff_ne.2 h, beq_eq_false_iff_ne.2 (by omega)]
theorem name_end {s out : List Int} {i n : Nat} (hn : n = 0 ∨ out ≠ []) (ho : out.length ≤ 253) :
    (endsB out n = true → loopC (F_host_Name_G1 s) (1, (out, (i : Int), (n : Int))) = some ([], 2)) ∧
    (endsB out n = false → (i = s.length → loopC (F_host_Name_G1 s) (1, (out, (i : Int), (n : Int))) = some (out, 0)) ∧ (i < s.length → i ≤ 253 → ∀ r, loopC (F_host_Name_G1 s) (2, (out ++ [46], ((i + 1 : Nat) : Int), ((0 : Nat) : Int))) = some r → loopC (F_host_Name_G1 s) (1, (out, (i : Int), (n : Int))) = some r)) := by
  have hG : F_host_Name_G1 s (1, (out, (i : Int), (n : Int))) = F_host_Name_G1_1 s (out, (i : Int), (n : Int)) := rfl
  by_cases h0 : n = 0
  · subst h0
    refine ⟨fun _ => loop_inr (s' := (0, (out, (i : Int), 0))) ?_ (name_wrong s _), fun h => by simp [endsB] at h⟩
    rw [hG]; rfl
  · obtain ⟨x, h1, h2⟩ := last_of (hn.resolve_left h0) (by omega)
    have hz : ((n : Int) == 0) = false := beq_eq_false_iff_ne.2 (by omega)
    have hz' : (n == 0) = false := beq_eq_false_iff_ne.2 h0
    by_cases hx : x = 45
    · subst hx
      refine ⟨fun _ => loop_inr (s' := (0, (out, (i : Int), (n : Int)))) ?_ (name_wrong s _), fun h => by simp [endsB, h2] at h⟩
      rw [hG]
      unfold F_host_Name_G1_1
      dsimp only
      rw [hz, cond_false, h1]; rfl
    · have hx' : (x == 45) = false := beq_eq_false_iff_ne.2 hx
      refine ⟨fun h => ?_, fun _ => ⟨fun hi => loop_inl ?_, fun hi hi2 r hr => loop_inr ?_ hr⟩⟩
      · unfold endsB at h
        rw [hz', h2] at h
        simp [hx] at h
      · rw [hG]
        unfold F_host_Name_G1_1
        dsimp only
        rw [hz, cond_false, h1, Option.bind_some, hx', cond_false, beq_nat, hi, beq_self_eq_true, cond_true]
      · rw [hG]
        unfold F_host_Name_G1_1
        dsimp only
        rw [hz, cond_false, h1, Option.bind_some, hx', cond_false, beq_nat, beq_eq_false_iff_ne.2 (by omega), cond_false]
        unfold chk
        rw [chk_out (by show out.length + 1 ≤ _; omega), cond_true, wrap_in (by omega) (by omega)]
        rfl
theorem name_loop (s : List Int) (hs : s.length ≤ 253) : ∀ (r out : List Int) (n i : Nat), s.drop i = r → i ≤ s.length → (n = 0 ∨ out ≠ []) → out.length ≤ i → n ≤ 63 → loopC (F_host_Name_G1 s) (2, (out, (i : Int), (n : Int))) = some (resN (nameP out n r))
  | [], out, n, i, hd, hi, hn, ho, hn2 => by
    have hl : i = s.length := by
      have := congrArg List.length hd
      simp at this
      omega
    have hG : F_host_Name_G1 s (2, (out, (i : Int), (n : Int))) = some (.inr (1, (out, (i : Int), (n : Int)))) := by
      show F_host_Name_G1_2 s (out, (i : Int), (n : Int)) = _
      unfold F_host_Name_G1_2
      dsimp only
      rw [beq_nat, hl, beq_self_eq_true, cond_true]
    have he := name_end (s := s) (i := i) hn (by omega)
    refine loop_inr hG ?_
    unfold nameP
    cases hb : endsB out n with
    | true => exact he.1 hb
    | false => exact (he.2 hb).1 hl
  | c :: r, out, n, i, hd, hi, hn, ho, hn2 => by
    have hlt : i < s.length := by
      have := congrArg List.length hd
      simp at this
      omega
    have hr : s.drop (i + 1) = r := by rw [← List.tail_drop, hd]; rfl
    have hc : s[i]? = some c := by rw [← List.head?_drop, hd]; rfl
    have hg : getI s (i : Int) = some c := by
      unfold getI
      rw [decide_eq_true (by omega), cond_true, Int.toNat_natCast, hc]
    have hG : F_host_Name_G1 s (2, (out, (i : Int), (n : Int))) = cond (c == 46) (some (.inr (1, (out, (i : Int), (n : Int))))) (cond ((sg c == 0) || ((n : Int) == 63)) (some (.inr (0, (out, (i : Int), (n : Int))))) (cond ((sg c == 45) && ((n : Int) == 0)) (some (.inr (0, (out, (i : Int), (n : Int))))) (some (.inr (2, (out ++ [sg c], ((i + 1 : Nat) : Int), ((n + 1 : Nat) : Int))))))) := by
      show F_host_Name_G1_2 s (out, (i : Int), (n : Int)) = _
      unfold F_host_Name_G1_2
      dsimp only
      rw [beq_nat, beq_eq_false_iff_ne.2 (show i ≠ s.length by omega), cond_false, hg, Option.bind_some, Option.bind_some, sign_eq, Option.bind_some]
      unfold chk
      rw [chk_out (by show out.length + 1 ≤ _; omega), cond_true, wrap_in (by omega) (by omega), wrap_in (by omega) (by omega)]
      rfl
    have he := name_end (s := s) (i := i) hn (by omega)
    unfold nameP
    cases h46 : c == 46 with
    | true =>
      rw [h46, cond_true] at hG
      rw [cond_true]
      refine loop_inr hG ?_
      cases hb : endsB out n with
      | true => exact he.1 hb
      | false =>
        refine (he.2 hb).2 hlt (by omega) _ ?_
        exact name_loop s hs r (out ++ [46]) 0 (i + 1) hr (by omega) (.inl rfl) (by simp; omega) (by omega)
    | false =>
      have e63 : ((n : Int) == 63) = (n == 63) := beq_nat n 63
      have e0 : ((n : Int) == 0) = (n == 0) := beq_nat n 0
      rw [h46, cond_false, e63, e0] at hG
      rw [cond_false]
      cases h1 : (sg c == 0) || (n == 63) with
      | true =>
        rw [h1, cond_true] at hG
        rw [Bool.true_or, cond_true]
        exact loop_inr hG (name_wrong s _)
      | false =>
        rw [h1, cond_false] at hG
        rw [Bool.false_or]
        cases h2 : (sg c == 45) && (n == 0) with
        | true =>
          rw [h2, cond_true] at hG
          rw [cond_true]
          exact loop_inr hG (name_wrong s _)
        | false =>
          rw [h2, cond_false] at hG
          rw [cond_false]
          have hne : n ≠ 63 := by
            rcases Bool.or_eq_false_iff.1 h1 with ⟨_, h⟩
            exact beq_eq_false_iff_ne.1 h
          refine loop_inr hG ?_
          exact name_loop s hs r (out ++ [sg c]) (n + 1) (i + 1) hr (by omega) (.inr (by simp)) (by simp; omega) (by omega)
theorem name_form (s : List Int) : F_host_Name s = joinC (S := Nat × List Int × Int × Int) (R := List Int × Int) (cond (decide ((s.length : Int) > 253)) (some (.inr (0, (([] : List Int), 0, 0)))) (F_host_Name_G1_2 s ([], 0, 0))) (fun p => loopC (S := Nat × List Int × Int × Int) (R := List Int × Int) (F_host_Name_G1 s) p) := rfl
theorem name_eq (s : List Int) : F_host_Name s = some (nameR s) := by
  rw [name_form]
  unfold nameR
  by_cases h : 253 < s.length
  · rw [decide_eq_true (show (s.length : Int) > 253 by omega), decide_eq_true h, cond_true, cond_true]
    exact name_wrong s _
  · rw [decide_eq_false (show ¬ (s.length : Int) > 253 by omega), decide_eq_false h, cond_false, cond_false]
    have hl := name_loop s (by omega) s [] 0 0 rfl (by omega) (.inl rfl) (by simp) (by omega)
    obtain ⟨k, hk⟩ := iter_of_loop' hl
    cases k with
    | zero => cases hk
    | succ k =>
      unfold iterC at hk
      have hG : F_host_Name_G1 s (2, (([] : List Int), ((0 : Nat) : Int), ((0 : Nat) : Int))) = F_host_Name_G1_2 s ([], 0, 0) := rfl
      rw [hG] at hk
      split at hk
      · cases hk
      · rename_i r hr
        rw [hr]
        exact hk
      · rename_i x hx
        rw [hx]
        exact loop_of_iter hk
abbrev exO : List Int := [69, 120, 97, 109, 112, 108, 101, 46, 111, 114, 103]
theorem ex_dotted : F_addr_dotted exO = some ([], false) := by kernel_rfl
theorem ex_coloned : F_addr_coloned exO = some ([], false) := by
  unfold F_addr_coloned
  refine (join_inr (s := (2, (([] : List Int), (-1), 1, 14, 1))) (by kernel_rfl)).trans (loop_of_iter (n := 3) (by kernel_rfl))
theorem ex_name : F_host_Name exO = some ([101, 120, 97, 109, 112, 108, 101, 46, 111, 114, 103], 0) := by
  rw [name_eq]
  kernel_rfl
theorem ex_parse : F_addr_Parse exO = some ([], 2) := by
  unfold F_addr_Parse
  rw [ex_dotted, Option.bind_some, Bool.not_false, cond_true, ex_coloned, Option.bind_some]
  kernel_rfl
end Go.Proofs.YtgfmfgombmpodaaGreatDoor

/- Texts without a colon: the program's and the reference's addresses. -/
namespace Go.Proofs.YtgfmfgombmpodaaGreatDoor
open Pv
set_option linter.unusedVariables false
theorem digit_ex (c : Int) : ∃ d, F_addr_digit c = some d := by
  unfold F_addr_digit
  repeat' (first | with_reducible exact some_ex _ | with_reducible apply cond_ex)
theorem prefix_lit (s p : List Int) (hs : s.length ≤ 1000000) : F_strings_HasPrefix s p = some (decide (p.length ≤ s.length) && (s.take p.length == p)) := by
  unfold F_strings_HasPrefix F_internal_stringslite_HasPrefix
  by_cases h : p.length ≤ s.length
  · rw [decide_eq_true (show (s.length : Int) ≥ (p.length : Int) by omega), cond_true, decide_eq_true h, Bool.true_and]
    have := cutI_nat (s := s) (a := 0) (b := p.length) (by omega) h
    rw [show cutI s 0 (p.length : Int) = some (s.take p.length) from this]
    rfl
  · rw [decide_eq_false (show ¬ (s.length : Int) ≥ (p.length : Int) by omega), cond_false, decide_eq_false h]
    rfl
theorem Plain_ex (s : List Int) (hs : s.length ≤ 1000000) : ∃ p, F_addr_Plain s = some p := by
  unfold F_addr_Plain F_strings_TrimPrefix F_internal_stringslite_TrimPrefix
  have hp := prefix_lit s [0, 0, 0, 0, 0, 0, 0, 0, 0, 0, 255, 255] hs
  unfold F_strings_HasPrefix at hp
  have hp2 : F_internal_stringslite_HasPrefix s [0, 0, 0, 0, 0, 0, 0, 0, 0, 0, 255, 255] = some (decide (([0, 0, 0, 0, 0, 0, 0, 0, 0, 0, 255, 255] : List Int).length ≤ s.length) && (s.take ([0, 0, 0, 0, 0, 0, 0, 0, 0, 0, 255, 255] : List Int).length == [0, 0, 0, 0, 0, 0, 0, 0, 0, 0, 255, 255])) := by
    cases hq : F_internal_stringslite_HasPrefix s [0, 0, 0, 0, 0, 0, 0, 0, 0, 0, 255, 255] with
    | none => rw [hq] at hp; cases hp
    | some b => rw [hq] at hp; exact hp
  rw [hp2, Option.bind_some]
  cases hb : (decide (([0, 0, 0, 0, 0, 0, 0, 0, 0, 0, 255, 255] : List Int).length ≤ s.length) && (s.take ([0, 0, 0, 0, 0, 0, 0, 0, 0, 0, 255, 255] : List Int).length == [0, 0, 0, 0, 0, 0, 0, 0, 0, 0, 255, 255])) with
  | false => exact ⟨_, rfl⟩
  | true =>
    rw [Bool.and_eq_true, decide_eq_true_iff] at hb
    have h12 : 12 ≤ s.length := hb.1
    rw [cond_true, show cutI s (([0, 0, 0, 0, 0, 0, 0, 0, 0, 0, 255, 255] : List Int).length : Int) (s.length : Int) = _ from cutI_nat (s := s) (a := 12) (b := s.length) h12 (by omega)]
    exact ⟨_, rfl⟩
theorem coloned_no (s : List Int) (hs : s.length ≤ 1000000) (h58 : ∀ c ∈ s, c ≠ 58) : ∃ b : List Int, F_addr_coloned s = some (b, false) ∧ b.length ≤ 2 := by
  have hpre : F_strings_HasPrefix s [58, 58] = some false := by
    rw [prefix_lit s _ hs]
    match s, h58 with
    | [], _ => rfl
    | [x], _ => rfl
    | x :: y :: r, h58 =>
      have : (x :: y :: r).take ([58, 58] : List Int).length = [x, y] := rfl
      rw [this, show ([x, y] == ([58, 58] : List Int)) = false from beq_eq_false_iff_ne.2 fun e => h58 x (by simp) (by injection e)]
      rw [Bool.and_false]
  have loop : ∀ (i : Nat) (n : Int) (k : Nat), i ≤ s.length → k ≤ 4 → ∃ r, loopC (F_addr_coloned_G1 s) (2, (([] : List Int), (-1), (i : Int), n, (k : Int))) = some r ∧ (r.2 = false ∧ r.1.length ≤ 2) := fun i n k hi hk =>
    loop_inv (body := F_addr_coloned_G1 s)
      (I := fun st => (∃ (i : Nat) (n : Int) (k : Nat), i ≤ s.length ∧ k ≤ 4 ∧ st = (2, (([] : List Int), (-1), (i : Int), n, (k : Int)))) ∨ ∃ (l : List Int) (x : Int × Int × Int), l.length = 2 ∧ st = (0, (l, (-1), x)))
      (m := fun st => cond (st.1 == 0) 0 (s.length + 1 - st.2.2.2.1.toNat)) (Q := fun r => r.2 = false ∧ r.1.length ≤ 2) (fun st h => by
        rcases h with ⟨i, n, k, hi, hk, rfl⟩ | ⟨l, x, hl, rfl⟩
        · show (∃ r, F_addr_coloned_G1_2 s (([] : List Int), (-1), (i : Int), n, (k : Int)) = _ ∧ _) ∨ ∃ s', F_addr_coloned_G1_2 s (([] : List Int), (-1), (i : Int), n, (k : Int)) = _ ∧ _
          unfold F_addr_coloned_G1_2 chk
          dsimp only
          have hck : ∀ a b : Int, (decide ((([] : List Int).length + ([a, b] : List Int).length) * 1 ≤ 140737488355328) && decide (([] : List Int).length + ([a, b] : List Int).length ≤ maxLen)) = true := fun a b => chk1 (by show 0 + 2 ≤ _; omega)
          by_cases hlt : i < s.length
          · obtain ⟨d, hd⟩ := digit_ex s[i]
            have hg := getI_nat (List.getElem?_eq_getElem hlt)
            rw [decide_eq_true (show (i : Int) < (s.length : Int) by omega), cond_true, hg, Option.bind_some, hd, Option.bind_some, Option.bind_some, hd, Option.bind_some]
            by_cases hdk : d ≥ 0 ∧ k < 4
            · rw [decide_eq_true hdk.1, decide_eq_true (show (k : Int) < 4 by omega)]
              rw [show (true && true) = true from rfl, cond_true, wrap_in (x := (i : Int) + 1) (by omega) (by omega), wrap_in (x := (k : Int) + 1) (by omega) (by omega)]
              refine .inr ⟨_, rfl, .inl ⟨i + 1, _, k + 1, by omega, by omega, rfl⟩, ?_⟩
              show s.length + 1 - ((i : Int) + 1).toNat < s.length + 1 - (i : Int).toNat
              omega
            · have : (decide (d ≥ 0) && decide ((k : Int) < 4)) = false := by
                simp
                omega
              rw [this, cond_false, hck, cond_true, show ((i : Int) == (s.length : Int)) = false from beq_eq_false_iff_ne.2 (by omega), cond_false, Option.bind_some]
              rw [show (s[i] != 58) = true from bne_iff_ne.2 (h58 _ (List.getElem_mem _)), Bool.true_or, cond_true]
              cases (k : Int) == 0
              · exact .inl ⟨_, rfl, rfl, by simp⟩
              · exact .inl ⟨_, rfl, rfl, by simp⟩
          · rw [decide_eq_false (show ¬ (i : Int) < (s.length : Int) by omega), cond_false, hck, cond_true, show ((i : Int) == (s.length : Int)) = true from beq_iff_eq.2 (by omega), cond_true]
            cases (k : Int) == 0
            · refine .inr ⟨_, rfl, .inr ⟨_, _, rfl, rfl⟩, ?_⟩
              show 0 < s.length + 1 - (i : Int).toNat
              omega
            · exact .inl ⟨_, rfl, rfl, by simp⟩
        · refine .inl ⟨(l, false), ?_, rfl, by show l.length ≤ 2; omega⟩
          show F_addr_coloned_G1_0 (l, (-1), x) = _
          unfold F_addr_coloned_G1_0
          dsimp only
          rw [show (decide ((-1 : Int) < 0)) = true from rfl, cond_true, show ((l.length : Int) == 16) = false from beq_eq_false_iff_ne.2 (by omega)]) _ (.inl ⟨i, n, k, hi, hk, rfl⟩)
  unfold F_addr_coloned
  rw [hpre, Option.bind_some, cond_false]
  cases s with
  | nil => exact ⟨[], rfl, by simp⟩
  | cons c r =>
    rw [decide_eq_true (show (0 : Int) < ((c :: r).length : Int) by rw [List.length_cons]; omega), cond_true, show getI (c :: r) 0 = some c from rfl, Option.bind_some]
    obtain ⟨d, hd⟩ := digit_ex c
    rw [hd, Option.bind_some, Option.bind_some, hd, Option.bind_some]
    by_cases h0 : d ≥ 0
    · rw [decide_eq_true h0]
      obtain ⟨x, h1, h2, h3⟩ := loop 1 (bits .or .i64 (IntKind.i64.wrap (0 * 2 ^ 4)) d) 1 (by simp) (by omega)
      refine ⟨x.1, ?_, h3⟩
      have : x = (x.1, false) := Prod.ext rfl h2
      rw [← this]
      exact h1
    · rw [decide_eq_false h0]
      exact ⟨[], rfl, by simp⟩
theorem group_ex (s : List Int) : ∃ r, F_wlvref15_group s = some r := by
  unfold F_wlvref15_group
  by_cases h : (s.length : Int) < 1 ∨ (s.length : Int) > 4
  · have : (decide ((s.length : Int) < 1) || decide ((s.length : Int) > 4)) = true := by simpa using h
    rw [this, cond_true]
    exact ⟨_, rfl⟩
  · have : (decide ((s.length : Int) < 1) || decide ((s.length : Int) > 4)) = false := by simp; omega
    rw [this, cond_false]
    obtain ⟨r, h1, _⟩ := loop_inv (body := F_wlvref15_group_L7 s) (I := fun st => ∃ i : Nat, i ≤ s.length ∧ st.2 = (i : Int)) (m := fun st => s.length - st.2.toNat) (Q := fun _ => True) (fun st ⟨i, hi, e⟩ => by
      unfold F_wlvref15_group_L7
      dsimp only
      rw [e]
      by_cases hlt : i < s.length
      · have hg := getI_nat (List.getElem?_eq_getElem hlt)
        rw [decide_eq_true (show (i : Int) < (s.length : Int) by omega), cond_true, hg, Option.bind_some, wrap_in (x := (i : Int) + 1) (by omega) (by omega)]
        have hm : s.length - ((i : Int) + 1).toNat < s.length - (i : Int).toNat := by omega
        cases (decide (s[i] ≥ 48) && decide (s[i] ≤ 57))
        · cases (decide (s[i] ≥ 97) && decide (s[i] ≤ 102))
          · cases (decide (s[i] ≥ 65) && decide (s[i] ≤ 70))
            · exact .inl ⟨_, rfl, trivial⟩
            · exact .inr ⟨_, rfl, ⟨i + 1, by omega, rfl⟩, hm⟩
          · exact .inr ⟨_, rfl, ⟨i + 1, by omega, rfl⟩, hm⟩
        · exact .inr ⟨_, rfl, ⟨i + 1, by omega, rfl⟩, hm⟩
      · rw [decide_eq_false (show ¬ (i : Int) < (s.length : Int) by omega), cond_false]
        exact .inl ⟨_, rfl, trivial⟩) (0, 0) ⟨0, by omega, rfl⟩
    rw [h1]
    cases r with
    | inl r => exact ⟨_, rfl⟩
    | inr r => exact ⟨_, rfl⟩
theorem eight_no (s : List Int) (hs : s.length ≤ 1000000) (h58 : ∀ c ∈ s, c ≠ 58) : ∃ b, F_wlvref15_eight s = some (b, false) := by
  obtain ⟨r, h1, h2⟩ := loop_inv (body := F_wlvref15_eight_L4 s) (I := fun st => ∃ i : Nat, i ≤ s.length ∧ st = ((-1 : Int), (i : Int))) (m := fun st => s.length - st.2.toNat) (Q := fun r => r = .inr (-1)) (fun st ⟨i, hi, e⟩ => by
    subst e
    unfold F_wlvref15_eight_L4
    dsimp only
    rw [wrap_in (x := (i : Int) + 1) (by omega) (by omega)]
    by_cases hlt : i + 1 < s.length
    · have hg := getI_nat (List.getElem?_eq_getElem (l := s) (i := i) (by omega))
      rw [decide_eq_true (show (i : Int) + 1 < (s.length : Int) by omega), cond_true, hg, Option.bind_some, beq_eq_false_iff_ne.2 (h58 _ (List.getElem_mem _)), cond_false]
      refine .inr ⟨_, rfl, ⟨i + 1, by omega, rfl⟩, ?_⟩
      show s.length - ((i : Int) + 1).toNat < s.length - (i : Int).toNat
      omega
    · rw [decide_eq_false (show ¬ (i : Int) + 1 < (s.length : Int) by omega), cond_false]
      exact .inl ⟨_, rfl, rfl⟩) ((-1), 0) ⟨0, by omega, rfl⟩
  subst h2
  unfold F_wlvref15_eight
  rw [h1]
  show ∃ b, F_wlvref15_eight_J2 s (-1) = some (b, false)
  unfold F_wlvref15_eight_J2
  dsimp only
  rw [show (decide ((-1 : Int) < 0)) = true from rfl, cond_true]
  have hgr : ∃ b ok, F_wlvref15_groups s = some (b, ok) ∧ b.length ≤ 2 := by
    unfold F_wlvref15_groups
    cases hse : s == ([] : List Int) with
    | true => exact ⟨_, _, rfl, by simp⟩
    | false =>
      rw [cond_false, Split_eq s 58 hs, splitI_miss h58, Option.bind_some]
      obtain ⟨⟨n, ok⟩, hg⟩ := group_ex s
      have hb1 : F_wlvref15_groups_L8 ([s], ([] : List Int), 0) = cond (!ok) (some (.inl (.inl ([], false)))) (some (.inr ([s], [IntKind.u8.wrap (Int.fdiv n (2 ^ 8)), IntKind.u8.wrap n], 1))) := by
        unfold F_wlvref15_groups_L8
        dsimp only
        rw [show (decide ((0 : Int) < (([s] : List (List Int)).length : Int)) && decide ((0 : Int) < 9)) = true from rfl, cond_true, show getI [s] 0 = some s from rfl, Option.bind_some, hg, Option.bind_some]
        cases ok <;> rfl
      cases ok with
      | false =>
        rw [loop_inl hb1]
        exact ⟨_, _, rfl, by simp⟩
      | true =>
        have hb2 : F_wlvref15_groups_L8 ([s], [IntKind.u8.wrap (Int.fdiv n (2 ^ 8)), IntKind.u8.wrap n], 1) = some (.inl (.inr ([s], [IntKind.u8.wrap (Int.fdiv n (2 ^ 8)), IntKind.u8.wrap n]))) := rfl
        rw [loop_inr hb1 (loop_inl hb2)]
        exact ⟨_, _, rfl, by simp⟩
  obtain ⟨b, ok, h1, h2⟩ := hgr
  rw [h1, Option.bind_some, show ((b.length : Int) == 16) = false from beq_eq_false_iff_ne.2 (by omega), Bool.and_false]
  exact ⟨_, rfl⟩
theorem byte_len {w : List Int} (h : byteB w = true) : w.length ≤ 3 := by
  unfold byteB at h
  rw [Bool.and_eq_true, decide_eq_true_iff] at h
  obtain ⟨n, h1, h2⟩ := canon_eq _ w rfl h.1
  have := dgs_len 2 n (by omega)
  rwa [← h1] at this
theorem four_len {s : List Int} (h : (fourR s).2 = true) : s.length ≤ 15 ∧ (fourR s).1.length = 4 := by
  unfold fourR at h ⊢
  cases hc : (decide ((splitI s 46).length = 4) && (splitI s 46).all byteB) with
  | false => rw [hc] at h; cases h
  | true =>
    rw [Bool.and_eq_true, decide_eq_true_iff] at hc
    have h1 := splitI_sum s 46
    have : ∀ l : List (List Int), l.all byteB = true → (l.map List.length).sum ≤ 3 * l.length := fun l => by
      induction l with
      | nil => intro _; simp
      | cons w l ih =>
        intro h
        rw [List.all_cons, Bool.and_eq_true] at h
        have := byte_len h.1
        have := ih h.2
        simp
        omega
    have := this _ hc.2
    refine ⟨by omega, ?_⟩
    rw [cond_true, List.length_map]
    exact hc.1
theorem refParse_no (s : List Int) (hs : s.length ≤ 1000000) (h58 : ∀ c ∈ s, c ≠ 58) : F_wlvref15_Parse s = some (cond (fourR s).2 ((fourR s).1, 0) ([], 2)) := by
  unfold F_wlvref15_Parse
  by_cases h50 : (s.length : Int) > 50
  · rw [decide_eq_true h50, cond_true]
    cases hf : (fourR s).2 with
    | true => have := (four_len hf).1; omega
    | false => rfl
  · rw [decide_eq_false h50, cond_false, four_eq s hs, Option.bind_some]
    cases hf : (fourR s).2 with
    | true => rfl
    | false =>
      obtain ⟨b, hb⟩ := eight_no s hs h58
      rw [cond_false, hb]
      rfl
theorem Parse_no (s : List Int) (hs : s.length ≤ 1000000) (h58 : ∀ c ∈ s, c ≠ 58) : F_addr_Parse s = some (cond (fourR s).2 ((fourR s).1, 0) ([], 2)) := by
  unfold F_addr_Parse
  rw [dotted_eq s hs, Option.bind_some]
  cases hf : (fourR s).2 with
  | true => rfl
  | false =>
    obtain ⟨b, hb, hl⟩ := coloned_no s hs h58
    obtain ⟨p, hp⟩ := Plain_ex b (by omega)
    rw [Bool.not_false, cond_true, hb, Option.bind_some]
    show (F_addr_Plain b).bind _ = _
    rw [hp]
    rfl
end Go.Proofs.YtgfmfgombmpodaaGreatDoor

/- addr.coloned in plain words: the machine of its labels. -/
namespace Go.Proofs.YtgfmfgombmpodaaGreatDoor
open Pv
set_option linter.unusedVariables false
def dg (c : Int) : Int := if 48 ≤ c ∧ c ≤ 57 then c - 48 else if 97 ≤ c ∧ c ≤ 102 then c - 87 else if 65 ≤ c ∧ c ≤ 70 then c - 55 else -1
theorem dg_in (c : Int) : -1 ≤ dg c ∧ dg c < 16 := by unfold dg; split; omega; split; omega; split; omega; omega
theorem dg_58 : dg 58 = -1 := rfl
theorem u8_sm {x : Int} (h0 : 0 ≤ x) (h1 : x < 256) : IntKind.u8.wrap x = x := by rw [IntKind.wrap_u8]; omega
theorem digit_eq (c : Int) : F_addr_digit c = some (dg c) := by
  unfold F_addr_digit dg
  by_cases h1 : 48 ≤ c ∧ c ≤ 57
  · rw [show (decide (c ≥ 48) && decide (c ≤ 57)) = true by simpa using h1, cond_true, if_pos h1, u8_sm (by omega) (by omega), wrap_in (by omega) (by omega)]
  · rw [show (decide (c ≥ 48) && decide (c ≤ 57)) = false by simp; omega, cond_false, if_neg h1]
    by_cases h2 : 97 ≤ c ∧ c ≤ 102
    · rw [show (decide (c ≥ 97) && decide (c ≤ 102)) = true by simpa using h2, cond_true, if_pos h2, u8_sm (by omega) (by omega), wrap_in (x := c - 97) (by omega) (by omega), wrap_in (by omega) (by omega)]
      congr 1; omega
    · rw [show (decide (c ≥ 97) && decide (c ≤ 102)) = false by simp; omega, cond_false, if_neg h2]
      by_cases h3 : 65 ≤ c ∧ c ≤ 70
      · rw [show (decide (c ≥ 65) && decide (c ≤ 70)) = true by simpa using h3, cond_true, if_pos h3, u8_sm (by omega) (by omega), wrap_in (x := c - 65) (by omega) (by omega), wrap_in (by omega) (by omega)]
        congr 1; omega
      · rw [show (decide (c ≥ 65) && decide (c ≤ 70)) = false by simp; omega, cond_false, if_neg h3]
theorem or16 {n d : Int} (h0 : 0 ≤ n) (h1 : n < 65536) (h2 : 0 ≤ d) (h3 : d < 16) : bits .or .i64 (IntKind.i64.wrap (n * 2 ^ 4)) d = n * 16 + d := by
  have e : n * 2 ^ 4 = n * 16 := rfl
  rw [e, wrap_in (by omega) (by omega)]
  exact bits_join .i64 40 (by decide) (fun n h0 h1 => wrap_in (by omega) (by have e : (2 : Int) ^ 40 = 1099511627776 := by decide
                                                                             omega)) 4 (n * 16) d (by omega) (by omega) (by have e : (2 : Int) ^ 40 = 1099511627776 := by decide
                                                                                                                            omega) h2 h3 (by have e : (2 : Int) ^ 40 = 1099511627776 := by decide
                                                                                                                                             omega)
def digs : List Int → Int → Nat → Int × List Int
  | [], n, _ => (n, [])
  | c :: r, n, z => cond (decide (0 ≤ dg c) && decide (z < 4)) (digs r (n * 16 + dg c) (z + 1)) (n, c :: r)
def by2 (n : Int) : List Int := [n / 256 % 256, n % 256]
theorem by2_eq {n : Int} (h0 : 0 ≤ n) : ([(IntKind.u8.wrap (Int.fdiv n (2 ^ 8))), (IntKind.u8.wrap n)] : List Int) = by2 n := by
  rw [IntKind.wrap_u8, IntKind.wrap_u8, Int.fdiv_eq_ediv_of_nonneg _ (by decide)]; rfl
def overM (b : List Int) (g : Int) : Option (List Int) := cond (decide (g < 0)) (cond (b.length == 16) (some b) none) (cond (decide (16 ≤ b.length)) none (some (insZ b g.toNat)))
def tail3 (f : List Int → Int → List Int → Option (List Int)) (b : List Int) : List Int → Option (List Int)
  | [] => overM b b.length
  | e :: r3 => f b b.length (e :: r3)
def tail2 (f : List Int → Int → List Int → Option (List Int)) (b : List Int) (g : Int) : List Int → Option (List Int)
  | [] => none
  | d :: r2 => cond (d != 58) (f b g (d :: r2)) (cond (decide (0 ≤ g)) none (tail3 f b r2))
def tailM (f : List Int → Int → List Int → Option (List Int)) (b : List Int) (g : Int) : List Int → Option (List Int)
  | [] => overM b g
  | c :: r => cond (c != 58 || b.length == 16) none (tail2 f b g r)
def colM : Nat → List Int → Int → List Int → Option (List Int)
  | 0, _, _, _ => none
  | _ + 1, _, _, [] => none
  | k + 1, b, g, c :: r => cond (decide (0 ≤ dg c)) (tailM (colM k) (b ++ by2 (digs r (dg c) 1).1) g (digs r (dg c) 1).2) none
def RelC (o : Option (List Int × Bool)) (m : Option (List Int)) : Prop := match m with
  | some x => o = some (x, true)
  | none => ∃ v : List Int, o = some (v, false) ∧ v.length ≤ 16
theorem relC_fail : RelC (some (([] : List Int), false)) none := ⟨[], rfl, by simp⟩
theorem digs_suf : ∀ (r : List Int) (n : Int) (z : Nat), ∃ q, r = q ++ (digs r n z).2
  | [], _, _ => ⟨[], rfl⟩
  | c :: r, n, z => by
    unfold digs
    cases decide (0 ≤ dg c) && decide (z < 4) with
    | false => exact ⟨[], rfl⟩
    | true =>
      obtain ⟨q, h⟩ := digs_suf r (n * 16 + dg c) (z + 1)
      exact ⟨c :: q, by rw [cond_true, List.cons_append, ← h]⟩
theorem over_rel (s b : List Int) (g i n z : Int) (hb : b.length ≤ 16) (h1 : -1 ≤ g) (h2 : g ≤ b.length) : RelC (loopC (F_addr_coloned_G1 s) (0, (b, g, i, n, z))) (overM b g) := by
  have hbody : F_addr_coloned_G1 s (0, (b, g, i, n, z)) = F_addr_coloned_G1_0 (b, g, i, n, z) := rfl
  unfold overM
  unfold F_addr_coloned_G1_0 at hbody
  dsimp only at hbody
  by_cases hg : g < 0
  · rw [decide_eq_true hg, cond_true] at hbody ⊢
    rw [loop_inl hbody]
    cases h16 : b.length == 16 with
    | true => rw [beq_iff_eq.2 (show (b.length : Int) = 16 by have := beq_iff_eq.1 h16; omega)]; rfl
    | false => rw [beq_eq_false_iff_ne.2 (show (b.length : Int) ≠ 16 by have := beq_eq_false_iff_ne.1 h16; omega)]; exact ⟨b, rfl, hb⟩
  · rw [decide_eq_false hg, cond_false] at hbody ⊢
    by_cases h16 : 16 ≤ b.length
    · rw [decide_eq_true (show (b.length : Int) ≥ 16 by omega), cond_true] at hbody
      rw [loop_inl hbody, decide_eq_true h16]
      exact relC_fail
    · have hok : insOk b g = true := by
        unfold insOk
        simp only [Bool.and_eq_true, decide_eq_true_eq]
        exact ⟨⟨by omega, h2⟩, by rw [Nat.blt_eq]; omega⟩
      rw [decide_eq_false (show ¬ (b.length : Int) ≥ 16 by omega), cond_false, hok] at hbody
      rw [loop_inl hbody, decide_eq_false h16]
      rfl
/-- What holds where a group begins. -/
structure AtG (b : List Int) (g : Int) : Prop where
  len : b.length ≤ 14
  even : b.length % 2 = 0
  lo : -1 ≤ g
  hi : g ≤ b.length
theorem len2 (b : List Int) (n : Int) : (b ++ by2 n).length = b.length + 2 := by rw [List.length_append]; rfl
theorem drop_cons {s r : List Int} {c : Int} {i : Nat} (h : s.drop i = c :: r) : i < s.length ∧ s[i]? = some c ∧ s.drop (i + 1) = r := by
  have hl : i < s.length := by
    rcases Nat.lt_or_ge i s.length with h1 | h1
    · exact h1
    · rw [List.drop_of_length_le h1] at h; cases h
  rw [List.drop_eq_getElem_cons hl] at h
  injection h with h1 h2
  exact ⟨hl, by rw [List.getElem?_eq_getElem hl, h1], h2⟩
theorem drop_nil' {s : List Int} {i : Nat} (h : s.drop i = []) (hi : i ≤ s.length) : i = s.length := by
  have := List.drop_eq_nil_iff.1 h
  omega
/-- Behind a group's digits. -/
theorem tail_rel (s : List Int) (hs : s.length ≤ 1000000) (f : List Int → Int → List Int → Option (List Int)) (b : List Int) (g : Int) (hA : AtG b g) (i : Nat) (n : Int) (z : Nat) (r : List Int) (hr : s.drop i = r) (hi : i ≤ s.length) (h0 : 0 ≤ n) (h1 : n < 65536) (hz : 1 ≤ z) (hz4 : z ≤ 4)
    (hstop : r = [] ∨ ∃ c r', r = c :: r' ∧ (decide (0 ≤ dg c) && decide (z < 4)) = false)
    (ih : ∀ (b' : List Int) (g' : Int) (j : Nat) (r' : List Int) (n' z' : Int), AtG b' g' → s.drop j = r' → j ≤ s.length → i < j → RelC (loopC (F_addr_coloned_G1 s) (1, (b', g', (j : Int), n', z'))) (f b' g' r')) (hf : ∀ b g, f b g [] = none) :
    RelC (loopC (F_addr_coloned_G1 s) (2, (b, g, (i : Int), n, (z : Int)))) (tailM f (b ++ by2 n) g r) := by
  have hbody : F_addr_coloned_G1 s (2, (b, g, (i : Int), n, (z : Int))) = F_addr_coloned_G1_2 s (b, g, (i : Int), n, (z : Int)) := rfl
  unfold F_addr_coloned_G1_2 chk at hbody
  dsimp only at hbody
  have hb14 := hA.len
  have hck : (decide ((b.length + (by2 n).length) * 1 ≤ 140737488355328) && decide (b.length + (by2 n).length ≤ maxLen)) = true := chk1 (by show b.length + 2 ≤ _; omega)
  have hz0 : ((z : Int) == 0) = false := beq_eq_false_iff_ne.2 (by omega)
  have hl2 := len2 b n
  rw [by2_eq h0, hck, hz0] at hbody
  simp only [cond_true, cond_false] at hbody
  rcases hstop with rfl | ⟨c, r', rfl, hc⟩
  · have hie := drop_nil' hr hi
    rw [decide_eq_false (show ¬ (i : Int) < (s.length : Int) by omega), cond_false, beq_iff_eq.2 (show (i : Int) = (s.length : Int) by omega), cond_true] at hbody
    have ho := over_rel s (b ++ by2 n) g i n z (by omega) hA.lo (by have := hA.hi; omega)
    show RelC _ (overM (b ++ by2 n) g)
    cases hm : loopC (F_addr_coloned_G1 s) (0, (b ++ by2 n, g, (i : Int), n, (z : Int))) with
    | none =>
      rw [hm] at ho
      unfold RelC at ho
      split at ho
      · cases ho
      · obtain ⟨v, hv, _⟩ := ho; cases hv
    | some x =>
      rw [loop_inr hbody hm]
      rw [hm] at ho
      exact ho
  · obtain ⟨hlt, hget, hdrop⟩ := drop_cons hr
    have hg1 := getI_nat hget
    have hdz : (decide (dg c ≥ 0) && decide ((z : Int) < 4)) = false := by
      rw [← hc]
      congr 1
      exact decide_eq_decide.2 (by omega)
    rw [decide_eq_true (show (i : Int) < (s.length : Int) by omega), cond_true, hg1] at hbody
    simp only [Option.bind_some, digit_eq, hdz, cond_false] at hbody
    rw [beq_eq_false_iff_ne.2 (show (i : Int) ≠ (s.length : Int) by omega), cond_false, show ((((b ++ by2 n).length : Nat) : Int) == 16) = ((b ++ by2 n).length == 16) by rw [Bool.eq_iff_iff, beq_iff_eq, beq_iff_eq]; omega] at hbody
    have pass : ∀ {x : Nat × List Int × Int × Int × Int × Int} {m : Option (List Int)}, F_addr_coloned_G1 s (2, (b, g, (i : Int), n, (z : Int))) = some (.inr x) → RelC (loopC (F_addr_coloned_G1 s) x) m → RelC (loopC (F_addr_coloned_G1 s) (2, (b, g, (i : Int), n, (z : Int)))) m := fun {x m} he hm => by
      cases hl : loopC (F_addr_coloned_G1 s) x with
      | none =>
        rw [hl] at hm
        unfold RelC at hm
        split at hm
        · cases hm
        · obtain ⟨v, hv, _⟩ := hm; cases hv
      | some y =>
        rw [loop_inr he hl]
        rw [hl] at hm
        exact hm
    show RelC _ (cond (c != 58 || (b ++ by2 n).length == 16) none (tail2 f (b ++ by2 n) g r'))
    cases hx : (c != 58 || (b ++ by2 n).length == 16) with
    | true =>
      rw [hx, cond_true] at hbody
      rw [loop_inl hbody]
      exact relC_fail
    | false =>
      rw [hx, cond_false, wrap_in (x := (i : Int) + 1) (by omega) (by omega)] at hbody
      rw [cond_false]
      have hne : ¬ (b ++ by2 n).length = 16 := beq_eq_false_iff_ne.1 (Bool.or_eq_false_iff.1 hx).2
      have hA' : AtG (b ++ by2 n) g := ⟨by have := hA.even; omega, by rw [hl2]; have := hA.even; omega, hA.lo, by have := hA.hi; omega⟩
      cases r' with
      | nil =>
        have hie := drop_nil' hdrop (by omega)
        rw [beq_iff_eq.2 (show (i : Int) + 1 = (s.length : Int) by omega), cond_true] at hbody
        have := ih (b ++ by2 n) g (i + 1) [] n z hA' hdrop (by omega) (by omega)
        rw [hf] at this
        exact pass hbody (by exact_mod_cast this)
      | cons d r2 =>
        obtain ⟨hlt2, hget2, hdrop2⟩ := drop_cons hdrop
        have hg2 : getI s ((i : Int) + 1) = some d := getI_nat (i := i + 1) hget2
        rw [beq_eq_false_iff_ne.2 (show (i : Int) + 1 ≠ (s.length : Int) by omega), cond_false, hg2, Option.bind_some] at hbody
        show RelC _ (cond (d != 58) (f (b ++ by2 n) g (d :: r2)) (cond (decide (0 ≤ g)) none (tail3 f (b ++ by2 n) r2)))
        cases hd : d != 58 with
        | true =>
          rw [hd, cond_true] at hbody
          rw [cond_true]
          have := ih (b ++ by2 n) g (i + 1) (d :: r2) n z hA' hdrop (by omega) (by omega)
          exact pass hbody (by exact_mod_cast this)
        | false =>
          rw [hd, cond_false] at hbody
          by_cases hg0 : 0 ≤ g
          · rw [decide_eq_true (show g ≥ 0 from hg0), cond_true] at hbody
            rw [loop_inl hbody, cond_false, decide_eq_true hg0]
            exact relC_fail
          · rw [decide_eq_false (show ¬ g ≥ 0 from hg0), cond_false, wrap_in (x := (i : Int) + 1 + 1) (by omega) (by omega)] at hbody
            rw [cond_false, decide_eq_false hg0, cond_false]
            have hA2 : AtG (b ++ by2 n) ((b ++ by2 n).length : Int) := ⟨hA'.len, hA'.even, by omega, Int.le_refl _⟩
            cases r2 with
            | nil =>
              have hie := drop_nil' hdrop2 (by omega)
              rw [decide_eq_false (show ¬ (i : Int) + 1 + 1 < (s.length : Int) by omega), cond_false, decide_eq_false (show ¬ ((b ++ by2 n).length : Int) < 0 by omega), cond_false] at hbody
              show RelC _ (overM (b ++ by2 n) ((b ++ by2 n).length : Int))
              unfold overM
              rw [decide_eq_false (show ¬ ((b ++ by2 n).length : Int) < 0 by omega), cond_false]
              have h14 := hA'.len
              rw [decide_eq_false (show ¬ ((b ++ by2 n).length : Int) ≥ 16 by omega), cond_false] at hbody
              have hok : insOk (b ++ by2 n) ((b ++ by2 n).length : Int) = true := by
                unfold insOk
                simp only [Bool.and_eq_true, decide_eq_true_eq]
                exact ⟨⟨by omega, Int.le_refl _⟩, by rw [Nat.blt_eq]; omega⟩
              rw [hok, cond_true] at hbody
              rw [loop_inl hbody, decide_eq_false (show ¬ 16 ≤ (b ++ by2 n).length by omega)]
              rfl
            | cons e r3 =>
              obtain ⟨hlt3, _, _⟩ := drop_cons hdrop2
              rw [decide_eq_true (show (i : Int) + 1 + 1 < (s.length : Int) by omega), cond_true] at hbody
              have := ih (b ++ by2 n) ((b ++ by2 n).length : Int) (i + 1 + 1) (e :: r3) n z hA2 hdrop2 (by omega) (by omega)
              exact pass hbody (by exact_mod_cast this)
theorem rel_some {o : Option (List Int × Bool)} {m : Option (List Int)} (h : RelC o m) : ∃ x, o = some x := by
  unfold RelC at h
  split at h
  · exact ⟨_, h⟩
  · obtain ⟨v, hv, _⟩ := h; exact ⟨_, hv⟩
theorem rel_inr {s : List Int} {y x : Nat × List Int × Int × Int × Int × Int} {m : Option (List Int)} (he : F_addr_coloned_G1 s y = some (.inr x)) (hm : RelC (loopC (F_addr_coloned_G1 s) x) m) : RelC (loopC (F_addr_coloned_G1 s) y) m := by
  obtain ⟨v, hv⟩ := rel_some hm
  rw [loop_inr he hv]
  rw [hv] at hm
  exact hm
theorem pow16 : ∀ z : Nat, 1 ≤ z → z ≤ 4 → (16 : Int) ^ z ≤ 65536
  | 1, _, _ => by decide
  | 2, _, _ => by decide
  | 3, _, _ => by decide
  | 4, _, _ => by decide
  | 0, h, _ => absurd h (by decide)
  | n + 5, _, h => absurd h (by omega)
theorem digs_rel (s : List Int) (hs : s.length ≤ 1000000) (f : List Int → Int → List Int → Option (List Int)) (b : List Int) (g : Int) (hA : AtG b g) (hf : ∀ b g, f b g [] = none) : ∀ (r : List Int) (i : Nat) (n : Int) (z : Nat), s.drop i = r → i ≤ s.length → 0 ≤ n → n < 16 ^ z → 1 ≤ z → z ≤ 4 →
    (∀ (b' : List Int) (g' : Int) (j : Nat) (r' : List Int) (n' z' : Int), AtG b' g' → s.drop j = r' → j ≤ s.length → i ≤ j → RelC (loopC (F_addr_coloned_G1 s) (1, (b', g', (j : Int), n', z'))) (f b' g' r')) →
    RelC (loopC (F_addr_coloned_G1 s) (2, (b, g, (i : Int), n, (z : Int)))) (tailM f (b ++ by2 (digs r n z).1) g (digs r n z).2)
  | [], i, n, z, hr, hi, h0, h1, hz, hz4, ih => by
    have hp := pow16 z hz hz4
    exact tail_rel s hs f b g hA i n z [] hr hi h0 (by omega) hz hz4 (.inl rfl) (fun b' g' j r' n' z' a1 a2 a3 a4 => ih b' g' j r' n' z' a1 a2 a3 (by omega)) hf
  | c :: r, i, n, z, hr, hi, h0, h1, hz, hz4, ih => by
    have hp := pow16 z hz hz4
    have h65 : n < 65536 := by omega
    unfold digs
    cases hc : decide (0 ≤ dg c) && decide (z < 4) with
    | false =>
      rw [cond_false]
      exact tail_rel s hs f b g hA i n z (c :: r) hr hi h0 h65 hz hz4 (.inr ⟨c, r, rfl, hc⟩) (fun b' g' j r' n' z' a1 a2 a3 a4 => ih b' g' j r' n' z' a1 a2 a3 (by omega)) hf
    | true =>
      rw [cond_true]
      obtain ⟨hlt, hget, hdrop⟩ := drop_cons hr
      simp only [Bool.and_eq_true, decide_eq_true_eq] at hc
      obtain ⟨hd0, hz3⟩ := hc
      obtain ⟨_, hd1⟩ := dg_in c
      have hp2 : (16 : Int) ^ (z + 1) = 16 ^ z * 16 := Int.pow_succ ..
      have hrec := digs_rel s hs f b g hA hf r (i + 1) (n * 16 + dg c) (z + 1) hdrop (by omega) (by omega) (by rw [hp2]; omega) (by omega) (by omega) (fun b' g' j r' n' z' a1 a2 a3 a4 => ih b' g' j r' n' z' a1 a2 a3 (by omega))
      refine rel_inr (x := (2, (b, g, ((i + 1 : Nat) : Int), n * 16 + dg c, ((z + 1 : Nat) : Int)))) ?_ hrec
      show F_addr_coloned_G1_2 s (b, g, (i : Int), n, (z : Int)) = _
      unfold F_addr_coloned_G1_2
      dsimp only
      rw [decide_eq_true (show (i : Int) < (s.length : Int) by omega), cond_true, getI_nat hget]
      simp only [Option.bind_some, digit_eq]
      rw [decide_eq_true (show dg c ≥ 0 from hd0), decide_eq_true (show (z : Int) < 4 by omega), Bool.true_and, cond_true, or16 h0 h65 hd0 hd1, wrap_in (x := (i : Int) + 1) (by omega) (by omega), wrap_in (x := (z : Int) + 1) (by omega) (by omega)]
      rfl
theorem colM_nil : ∀ (k : Nat) (b : List Int) (g : Int), colM k b g [] = none
  | 0, _, _ => rfl
  | _ + 1, _, _ => rfl
theorem colM_rel (s : List Int) (hs : s.length ≤ 1000000) : ∀ (k : Nat) (b : List Int) (g : Int) (i : Nat) (r : List Int) (n z : Int), r.length < k → AtG b g → s.drop i = r → i ≤ s.length → RelC (loopC (F_addr_coloned_G1 s) (1, (b, g, (i : Int), n, z))) (colM k b g r)
  | 0, _, _, _, _, _, _, hk, _, _, _ => absurd hk (Nat.not_lt_zero _)
  | k + 1, b, g, i, r, n, z, hk, hA, hr, hi => by
    have hbody : F_addr_coloned_G1 s (1, (b, g, (i : Int), n, z)) = F_addr_coloned_G1_1 s (b, g, (i : Int), n, z) := rfl
    unfold F_addr_coloned_G1_1 at hbody
    dsimp only at hbody
    cases r with
    | nil =>
      have hie := drop_nil' hr hi
      rw [decide_eq_false (show ¬ (i : Int) < (s.length : Int) by omega), cond_false] at hbody
      rw [loop_inl hbody]
      exact relC_fail
    | cons c r =>
      obtain ⟨hlt, hget, hdrop⟩ := drop_cons hr
      obtain ⟨_, hd1⟩ := dg_in c
      rw [decide_eq_true (show (i : Int) < (s.length : Int) by omega), cond_true, getI_nat hget] at hbody
      simp only [Option.bind_some, digit_eq] at hbody
      unfold colM
      by_cases hd0 : 0 ≤ dg c
      · rw [decide_eq_true (show dg c ≥ 0 from hd0), show (true && decide ((0 : Int) < 4)) = true from rfl, cond_true, or16 (by decide) (by decide) hd0 hd1, wrap_in (x := (i : Int) + 1) (by omega) (by omega)] at hbody
        rw [decide_eq_true hd0, cond_true]
        have hlen : (s.drop i).length = s.length - i := List.length_drop ..
        rw [hr, List.length_cons] at hlen
        have hrec := digs_rel s hs (colM k) b g hA (colM_nil k) r (i + 1) (dg c) 1 hdrop (by omega) hd0 (by simpa using hd1) (by omega) (by omega) (fun b' g' j r' n' z' a1 a2 a3 a4 => by
          refine colM_rel s hs k b' g' j r' n' z' ?_ a1 a2 a3
          have h2 : (s.drop j).length = s.length - j := List.length_drop ..
          rw [a2] at h2
          have hk' : r.length + 1 < k + 1 := hk
          omega)
        refine rel_inr (x := (2, (b, g, ((i + 1 : Nat) : Int), dg c, ((1 : Nat) : Int)))) ?_ hrec
        rw [hbody]
        have e : (0 : Int) * 16 + dg c = dg c := by omega
        rw [e]
        rfl
      · rw [decide_eq_false (show ¬ dg c ≥ 0 from hd0), show (false && decide ((0 : Int) < 4)) = false from rfl, cond_false] at hbody
        rw [loop_inl hbody, decide_eq_false hd0]
        exact relC_fail
theorem join_loop {S R : Type} {body : S → Option (R ⊕ S)} {s0 : S} {r : R} (h : loopC body s0 = some r) : joinC (body s0) (fun p => loopC body p) = some r := by
  obtain ⟨n, hn⟩ := iter_of_loop' h
  cases n with
  | zero => cases hn
  | succ n =>
    unfold iterC at hn
    split at hn
    · cases hn
    · rename_i x hx
      injection hn with hn
      rw [hx, hn]; rfl
    · rename_i x hx
      rw [hx]
      exact loop_of_iter hn
/-- addr.coloned. -/
def colR (s : List Int) : Option (List Int) :=
  cond (s.take 2 == [58, 58]) (cond (s.drop 2 == []) (some (insZ [] 0)) (colM s.length [] 0 (s.drop 2))) (colM (s.length + 1) [] (-1) s)
theorem coloned_rel (s : List Int) (hs : s.length ≤ 1000000) : RelC (F_addr_coloned s) (colR s) := by
  have hA1 : AtG [] (-1) := ⟨by simp, rfl, by omega, by simp⟩
  have hA0 : AtG [] 0 := ⟨by simp, rfl, by omega, by simp⟩
  have go : ∀ (g : Int) (i : Nat) (A : Option ((List Int × Bool) ⊕ (Nat × List Int × Int × Int × Int × Int))) (k : Nat), (s.drop i).length < k → AtG [] g → i ≤ s.length → A = F_addr_coloned_G1_1 s (([] : List Int), g, (i : Int), 0, 0) → RelC (joinC A (fun p => loopC (F_addr_coloned_G1 s) p)) (colM k [] g (s.drop i)) := fun g i A k hk hA hi he => by
    have := colM_rel s hs k [] g i (s.drop i) 0 0 hk hA rfl hi
    obtain ⟨v, hv⟩ := rel_some this
    have he' : A = F_addr_coloned_G1 s (1, (([] : List Int), g, (i : Int), 0, 0)) := he
    rw [he', join_loop hv]
    rw [hv] at this
    exact this
  have hpre : (decide (([58, 58] : List Int).length ≤ s.length) && (s.take ([58, 58] : List Int).length == [58, 58])) = (s.take 2 == [58, 58]) := by
    show (decide (2 ≤ s.length) && (s.take 2 == [58, 58])) = _
    by_cases h : 2 ≤ s.length
    · rw [decide_eq_true h, Bool.true_and]
    · rw [decide_eq_false h, Bool.false_and]
      refine (beq_eq_false_iff_ne.2 fun e => ?_).symm
      have := congrArg List.length e
      rw [List.length_take] at this
      simp at this
      omega
  unfold F_addr_coloned colR
  rw [prefix_lit s _ hs, Option.bind_some, hpre]
  cases h2 : s.take 2 == [58, 58] with
  | false =>
    rw [cond_false, cond_false]
    have := go (-1) 0 _ (s.length + 1) (by rw [List.drop_zero]; omega) hA1 (by omega) rfl
    rw [List.drop_zero] at this
    exact this
  | true =>
    rw [cond_true, cond_true]
    have hlen : 2 ≤ s.length := by
      have := congrArg List.length (beq_iff_eq.1 h2)
      rw [List.length_take] at this
      simp at this
      omega
    have hdl : (s.drop 2).length = s.length - 2 := List.length_drop ..
    cases hd : s.drop 2 with
    | nil =>
      rw [hd] at hdl
      have hl2 : s.length = 2 := by simp at hdl; omega
      rw [beq_iff_eq.2 (show (2 : Int) = (s.length : Int) by omega), cond_true, show (([] : List Int) == []) = true from rfl, cond_true]
      rw [join_inr (s := (0, (([] : List Int), 0, 2, 0, 0))) rfl]
      exact loop_inl rfl
    | cons c r =>
      rw [hd, List.length_cons] at hdl
      rw [beq_eq_false_iff_ne.2 (show (2 : Int) ≠ (s.length : Int) by omega), cond_false, show ((c :: r) == ([] : List Int)) = false from rfl, cond_false]
      have := go 0 2 _ s.length (by rw [hd, List.length_cons]; omega) hA0 hlen rfl
      rw [hd] at this
      exact this
end Go.Proofs.YtgfmfgombmpodaaGreatDoor

/- Addresses of groups: the machine answers as the parts between the colons say. -/
namespace Go.Proofs.YtgfmfgombmpodaaGreatDoor
open Pv
set_option linter.unusedVariables false
def hexGB (p : List Int) : Bool := decide (1 ≤ p.length) && decide (p.length ≤ 4) && p.all fun c => decide (0 ≤ dg c)
def hexV (p : List Int) : Int := p.foldl (fun n c => n * 16 + dg c) 0
def bytesP (ps : List (List Int)) : List Int := ps.flatMap fun p => by2 (hexV p)
theorem bytesP_len (ps : List (List Int)) : (bytesP ps).length = 2 * ps.length := by
  induction ps with
  | nil => rfl
  | cons p ps ih =>
    show (by2 (hexV p) ++ bytesP ps).length = _
    rw [List.length_append, ih, List.length_cons]
    show 2 + _ = _
    omega
theorem bytesP_cons (p : List Int) (ps : List (List Int)) : bytesP (p :: ps) = by2 (hexV p) ++ bytesP ps := rfl
theorem hexB_nil : hexGB [] = false := rfl
/-- What stands behind a part. -/
def Stop (rest : List Int) : Prop := rest = [] ∨ ∃ r, rest = 58 :: r
theorem part_ex : ∀ r : List Int, ∃ p rest, r = p ++ rest ∧ (∀ c ∈ p, c ≠ 58) ∧ Stop rest
  | [] => ⟨[], [], rfl, fun _ h => (by cases h), .inl rfl⟩
  | c :: r => by
    by_cases h : c = 58
    · exact ⟨[], c :: r, rfl, fun _ h => (by cases h), .inr ⟨r, by rw [h]⟩⟩
    · obtain ⟨p, rest, e, h1, h2⟩ := part_ex r
      refine ⟨c :: p, rest, by rw [e]; rfl, fun x hx => ?_, h2⟩
      rcases List.mem_cons.1 hx with rfl | hx
      · exact h
      · exact h1 x hx
theorem split_p : ∀ (p : List Int), (∀ c ∈ p, c ≠ 58) → splitI p 58 = [p]
  | [], _ => rfl
  | c :: p, h => by
    unfold splitI
    rw [beq_eq_false_iff_ne.2 (h c List.mem_cons_self), cond_false, split_p p fun x hx => h x (List.mem_cons_of_mem _ hx)]
theorem split_pc : ∀ (p r : List Int), (∀ c ∈ p, c ≠ 58) → splitI (p ++ 58 :: r) 58 = p :: splitI r 58
  | [], r, _ => by
    show cond ((58 : Int) == 58) ([] :: splitI r 58) (match splitI r 58 with | [] => [[58]] | w :: q => (58 :: w) :: q) = [] :: splitI r 58
    rfl
  | c :: p, r, h => by
    show splitI (c :: (p ++ 58 :: r)) 58 = _
    rw [show splitI (c :: (p ++ 58 :: r)) 58 = cond (c == 58) ([] :: splitI (p ++ 58 :: r) 58) (match splitI (p ++ 58 :: r) 58 with | [] => [[c]] | w :: q => (c :: w) :: q) from rfl]
    rw [beq_eq_false_iff_ne.2 (h c List.mem_cons_self), cond_false, split_pc p r fun x hx => h x (List.mem_cons_of_mem _ hx)]
theorem digs_part : ∀ (p rest : List Int) (n : Int) (z : Nat), (∀ c ∈ p, c ≠ 58) → Stop rest → z ≤ 4 →
    ((p.all fun c => decide (0 ≤ dg c)) && decide (z + p.length ≤ 4)) = true ∧ digs (p ++ rest) n z = (p.foldl (fun n c => n * 16 + dg c) n, rest) ∨
    ((p.all fun c => decide (0 ≤ dg c)) && decide (z + p.length ≤ 4)) = false ∧ ∃ m c q, digs (p ++ rest) n z = (m, c :: q) ∧ c ≠ 58
  | [], rest, n, z, _, hr, hz => by
    refine .inl ⟨by simpa using hz, ?_⟩
    rcases hr with rfl | ⟨r, rfl⟩
    · rfl
    · show digs (58 :: r) n z = _
      unfold digs
      rfl
  | c :: p, rest, n, z, h, hr, hz => by
    have hc := h c List.mem_cons_self
    have hp : ∀ x ∈ p, x ≠ 58 := fun x hx => h x (List.mem_cons_of_mem _ hx)
    have hu : digs ((c :: p) ++ rest) n z = cond (decide (0 ≤ dg c) && decide (z < 4)) (digs (p ++ rest) (n * 16 + dg c) (z + 1)) (n, c :: (p ++ rest)) := rfl
    rw [hu, List.all_cons, List.length_cons]
    cases hd : decide (0 ≤ dg c) with
    | false => exact .inr ⟨rfl, n, c, p ++ rest, rfl, hc⟩
    | true =>
      by_cases hz4 : z < 4
      · rw [decide_eq_true hz4]
        have ih := digs_part p rest (n * 16 + dg c) (z + 1) hp hr (by omega)
        rw [show z + (p.length + 1) = z + 1 + p.length by omega]
        exact ih
      · rw [decide_eq_false hz4, decide_eq_false (show ¬ z + (p.length + 1) ≤ 4 by omega), Bool.and_false]
        exact .inr ⟨rfl, n, c, p ++ rest, rfl, hc⟩
theorem col_part (k : Nat) (b : List Int) (g : Int) (p rest : List Int) (hp : ∀ c ∈ p, c ≠ 58) (hr : Stop rest) : colM (k + 1) b g (p ++ rest) = cond (hexGB p) (tailM (colM k) (b ++ by2 (hexV p)) g rest) none := by
  cases p with
  | nil =>
    rw [hexB_nil, cond_false]
    rcases hr with rfl | ⟨r, rfl⟩
    · rfl
    · rfl
  | cons c p =>
    have hu : colM (k + 1) b g ((c :: p) ++ rest) = cond (decide (0 ≤ dg c)) (tailM (colM k) (b ++ by2 (digs (p ++ rest) (dg c) 1).1) g (digs (p ++ rest) (dg c) 1).2) none := rfl
    have hb : hexGB (c :: p) = (decide (0 ≤ dg c) && ((p.all fun c => decide (0 ≤ dg c)) && decide (1 + p.length ≤ 4))) := by
      unfold hexGB
      rw [List.length_cons, List.all_cons, decide_eq_true (show 1 ≤ p.length + 1 by omega), Bool.true_and, show p.length + 1 = 1 + p.length by omega, Bool.and_comm, Bool.and_assoc]
    have hv : hexV (c :: p) = p.foldl (fun n c => n * 16 + dg c) (dg c) := by
      unfold hexV
      rw [List.foldl_cons, show (0 : Int) * 16 + dg c = dg c by omega]
    rw [hu, hb, hv]
    cases decide (0 ≤ dg c) with
    | false => rfl
    | true =>
      rw [cond_true, Bool.true_and]
      rcases digs_part p rest (dg c) 1 (fun x hx => hp x (List.mem_cons_of_mem _ hx)) hr (by decide) with ⟨h1, h2⟩ | ⟨h1, m, d, q, h2, h3⟩
      · rw [h1, h2, cond_true]
      · rw [h1, h2, cond_false]
        show cond (d != 58 || _) none _ = none
        rw [bne_iff_ne.2 h3, Bool.true_or, cond_true]
theorem stop_split {p rest : List Int} (hp : ∀ c ∈ p, c ≠ 58) (hr : Stop rest) : (rest = [] ∧ splitI (p ++ rest) 58 = [p]) ∨ ∃ r, rest = 58 :: r ∧ splitI (p ++ rest) 58 = p :: splitI r 58 := by
  rcases hr with rfl | ⟨r, rfl⟩
  · exact .inl ⟨rfl, by rw [List.append_nil]; exact split_p p hp⟩
  · exact .inr ⟨r, rfl, split_pc p r hp⟩
theorem split_nn (r : List Int) : 1 ≤ (splitI r 58).length := by
  have := splitI_ne r 58
  cases h : splitI r 58 with
  | nil => exact absurd h this
  | cons _ _ => rw [List.length_cons]; omega
theorem col_gap : ∀ (k : Nat) (b : List Int) (g : Int) (r : List Int), r.length < k → 0 ≤ g → b.length ≤ 14 → b.length % 2 = 0 →
    colM k b g r = cond ((splitI r 58).all hexGB && decide (b.length + 2 * (splitI r 58).length ≤ 14)) (some (insZ (b ++ bytesP (splitI r 58)) g.toNat)) none
  | 0, _, _, _, h, _, _, _ => absurd h (Nat.not_lt_zero _)
  | k + 1, b, g, r, hk, hg, hb, he => by
    obtain ⟨p, rest, rfl, hp, hr⟩ := part_ex r
    rw [col_part k b g p rest hp hr]
    have hl := len2 b (hexV p)
    rcases stop_split hp hr with ⟨rfl, hs⟩ | ⟨r', rfl, hs⟩
    · rw [hs]
      show cond (hexGB p) (overM (b ++ by2 (hexV p)) g) none = _
      rw [show [p].all hexGB = hexGB p by simp]
      cases hexGB p with
      | false => rfl
      | true =>
        rw [cond_true, Bool.true_and]
        unfold overM
        rw [decide_eq_false (show ¬ g < 0 by omega), cond_false, hl]
        by_cases h16 : b.length = 14
        · rw [decide_eq_true (show 16 ≤ b.length + 2 by omega), decide_eq_false (show ¬ b.length + 2 * [p].length ≤ 14 by simp; omega)]; rfl
        · rw [decide_eq_false (show ¬ 16 ≤ b.length + 2 by omega), decide_eq_true (show b.length + 2 * [p].length ≤ 14 by simp; omega)]
          show some _ = some (insZ (b ++ (by2 (hexV p) ++ [])) g.toNat)
          rw [List.append_nil]
    · rw [hs, List.all_cons, List.length_cons]
      have hnn := split_nn r'
      cases hx : hexGB p with
      | false => rfl
      | true =>
        rw [cond_true, Bool.true_and]
        show cond ((58 : Int) != 58 || (b ++ by2 (hexV p)).length == 16) none (tail2 (colM k) (b ++ by2 (hexV p)) g r') = _
        rw [show ((58 : Int) != 58) = false from rfl, Bool.false_or, hl]
        by_cases h16 : b.length = 14
        · rw [beq_iff_eq.2 (show b.length + 2 = 16 by omega), cond_true, decide_eq_false (show ¬ b.length + 2 * ((splitI r' 58).length + 1) ≤ 14 by omega), Bool.and_false]; rfl
        · rw [beq_eq_false_iff_ne.2 (show b.length + 2 ≠ 16 by omega), cond_false]
          cases r' with
          | nil => rfl
          | cons d r2 =>
            show cond (d != 58) (colM k (b ++ by2 (hexV p)) g (d :: r2)) (cond (decide (0 ≤ g)) none _) = _
            by_cases hd : d = 58
            · subst hd
              rw [show ((58 : Int) != 58) = false from rfl, cond_false, decide_eq_true hg, cond_true]
              have : splitI (58 :: r2) 58 = [] :: splitI r2 58 := split_pc [] r2 (fun _ h => by cases h)
              rw [this, List.all_cons, hexB_nil]; rfl
            · rw [bne_iff_ne.2 hd, cond_true]
              have hlen : (p ++ 58 :: d :: r2).length = p.length + (r2.length + 2) := by rw [List.length_append]; rfl
              rw [col_gap k (b ++ by2 (hexV p)) g (d :: r2) (by simp at hlen hk ⊢; omega) hg (by omega) (by omega), hl, bytesP_cons, List.append_assoc]
              rw [show b.length + 2 * ((splitI (d :: r2) 58).length + 1) = b.length + 2 + 2 * (splitI (d :: r2) 58).length by omega]
/-- Where two colons stand first. -/
def dcI : List Int → Option Nat
  | [] => none
  | c :: r => cond (c == 58 && r.head? == some 58) (some 0) ((dcI r).map (· + 1))
theorem dc_p : ∀ (p rest : List Int), (∀ c ∈ p, c ≠ 58) → dcI (p ++ rest) = (dcI rest).map (· + p.length)
  | [], rest, _ => by simp
  | c :: p, rest, h => by
    show cond (c == 58 && _) _ ((dcI (p ++ rest)).map (· + 1)) = _
    rw [beq_eq_false_iff_ne.2 (h c List.mem_cons_self), Bool.false_and, cond_false, dc_p p rest fun x hx => h x (List.mem_cons_of_mem _ hx), Option.map_map]
    congr 1
def partsO (r : List Int) : List (List Int) := cond (r == []) [] (splitI r 58)
/-- What an address of groups comes to, behind these bytes. -/
def grpR (b : List Int) (r : List Int) : Option (List Int) := match dcI r with
  | none => cond ((splitI r 58).all hexGB && (b.length + 2 * (splitI r 58).length == 16)) (some (b ++ bytesP (splitI r 58))) none
  | some i => cond ((partsO (r.take i)).all hexGB && (partsO (r.drop (i + 2))).all hexGB && decide (b.length + 2 * (partsO (r.take i)).length + 2 * (partsO (r.drop (i + 2))).length ≤ 14))
      (some (insZ (b ++ bytesP (partsO (r.take i)) ++ bytesP (partsO (r.drop (i + 2)))) (b.length + 2 * (partsO (r.take i)).length))) none
theorem partsO_ne {r : List Int} (h : r ≠ []) : partsO r = splitI r 58 := by
  unfold partsO
  rw [beq_eq_false_iff_ne.2 h, cond_false]
theorem col_nogap : ∀ (k : Nat) (b : List Int) (r : List Int), r.length < k → b.length ≤ 14 → b.length % 2 = 0 → dcI r ≠ some 0 → colM k b (-1) r = grpR b r
  | 0, _, _, h, _, _, _ => absurd h (Nat.not_lt_zero _)
  | k + 1, b, r, hk, hb, he, hd0 => by
    obtain ⟨p, rest, rfl, hp, hr⟩ := part_ex r
    rw [col_part k b (-1) p rest hp hr]
    have hl := len2 b (hexV p)
    have hdc := dc_p p rest hp
    rcases stop_split hp hr with ⟨rfl, hs⟩ | ⟨r', rfl, hs⟩
    · unfold grpR
      rw [hdc]
      show _ = cond ((splitI (p ++ []) 58).all hexGB && (b.length + 2 * (splitI (p ++ []) 58).length == 16)) (some (b ++ bytesP (splitI (p ++ []) 58))) none
      rw [hs, show [p].all hexGB = hexGB p by simp]
      cases hexGB p with
      | false => rfl
      | true =>
        show overM (b ++ by2 (hexV p)) (-1) = cond (b.length + 2 * 1 == 16) (some (b ++ (by2 (hexV p) ++ []))) none
        unfold overM
        rw [hl, List.append_nil]; rfl
    · -- a colon
      have hlen : (p ++ 58 :: r').length = p.length + (r'.length + 1) := by rw [List.length_append]; rfl
      have hne : ∀ i, p.length ≤ i → (p ++ 58 :: r').take i = p ++ (58 :: r').take (i - p.length) := fun i hi => by
        rw [List.take_append, List.take_of_length_le hi]
      have hnd : ∀ i, p.length ≤ i → (p ++ 58 :: r').drop i = (58 :: r').drop (i - p.length) := fun i hi => by
        rw [List.drop_append, List.drop_of_length_le hi]; rfl
      by_cases hdd : r'.head? = some 58
      · -- two colons
        obtain ⟨r2, rfl⟩ : ∃ r2, r' = 58 :: r2 := by
          cases r' with
          | nil => cases hdd
          | cons x r2 => injection hdd with hdd; exact ⟨r2, by rw [hdd]⟩
        have hdc0 : dcI (58 :: 58 :: r2) = some 0 := rfl
        rw [hdc0] at hdc
        have hdc : dcI (p ++ 58 :: 58 :: r2) = some p.length := by rw [hdc]; simp
        have hpne : p ≠ [] := fun e => hd0 (by rw [hdc, e]; rfl)
        unfold grpR
        rw [hdc]
        show _ = cond ((partsO ((p ++ 58 :: 58 :: r2).take p.length)).all hexGB && (partsO ((p ++ 58 :: 58 :: r2).drop (p.length + 2))).all hexGB && decide (b.length + 2 * (partsO ((p ++ 58 :: 58 :: r2).take p.length)).length + 2 * (partsO ((p ++ 58 :: 58 :: r2).drop (p.length + 2))).length ≤ 14))
          (some (insZ (b ++ bytesP (partsO ((p ++ 58 :: 58 :: r2).take p.length)) ++ bytesP (partsO ((p ++ 58 :: 58 :: r2).drop (p.length + 2)))) (b.length + 2 * (partsO ((p ++ 58 :: 58 :: r2).take p.length)).length))) none
        rw [List.take_left, hnd (p.length + 2) (by omega), show p.length + 2 - p.length = 2 by omega, show (58 :: 58 :: r2 : List Int).drop 2 = r2 from rfl, partsO_ne hpne, split_p p hp]
        rw [show [p].all hexGB = hexGB p by simp]
        cases hexGB p with
        | false => rfl
        | true =>
          rw [cond_true, Bool.true_and]
          show cond ((58 : Int) != 58 || (b ++ by2 (hexV p)).length == 16) none (cond ((58 : Int) != 58) (colM k (b ++ by2 (hexV p)) (-1) (58 :: r2)) (cond (decide ((0 : Int) ≤ -1)) none (tail3 (colM k) (b ++ by2 (hexV p)) r2))) = _
          rw [show ((58 : Int) != 58) = false from rfl, Bool.false_or, cond_false, show decide ((0 : Int) ≤ -1) = false from rfl, cond_false, hl]
          show cond (b.length + 2 == 16) none _ = cond ((partsO r2).all hexGB && decide (b.length + 2 * 1 + 2 * (partsO r2).length ≤ 14)) (some (insZ (b ++ (by2 (hexV p) ++ []) ++ bytesP (partsO r2)) (b.length + 2 * 1))) none
          rw [List.append_nil]
          by_cases h16 : b.length = 14
          · rw [beq_iff_eq.2 (show b.length + 2 = 16 by omega), cond_true, decide_eq_false (show ¬ b.length + 2 * 1 + 2 * (partsO r2).length ≤ 14 by omega), Bool.and_false]; rfl
          · rw [beq_eq_false_iff_ne.2 (show b.length + 2 ≠ 16 by omega), cond_false]
            cases r2 with
            | nil =>
              show overM (b ++ by2 (hexV p)) ((b ++ by2 (hexV p)).length : Int) = cond (true && decide (b.length + 2 * 1 + 2 * 0 ≤ 14)) (some (insZ (b ++ by2 (hexV p) ++ []) (b.length + 2 * 1))) none
              unfold overM
              rw [hl, List.append_nil, decide_eq_false (show ¬ ((b.length + 2 : Nat) : Int) < 0 by omega), cond_false, decide_eq_false (show ¬ 16 ≤ b.length + 2 by omega), cond_false, decide_eq_true (show b.length + 2 * 1 + 2 * 0 ≤ 14 by omega), Int.toNat_natCast]; rfl
            | cons e r3 =>
              show colM k (b ++ by2 (hexV p)) ((b ++ by2 (hexV p)).length : Int) (e :: r3) = _
              have hkk : (e :: r3).length < k := by rw [hlen] at hk; simp at hk ⊢; omega
              rw [col_gap k _ _ _ hkk (by omega) (by omega) (by omega), partsO_ne (by simp), hl, Int.toNat_natCast, show b.length + 2 * 1 = b.length + 2 by omega]
      · -- one colon
        have hdc1 : dcI (58 :: r') = (dcI r').map (· + 1) := by
          show cond ((58 : Int) == 58 && r'.head? == some 58) _ _ = _
          rw [beq_eq_false_iff_ne.2 hdd, Bool.and_false, cond_false]
        rw [hdc1] at hdc
        have hr'0 : dcI r' ≠ some 0 := fun e => by
          cases r' with
          | nil => cases e
          | cons x r2 =>
            have e' : cond (x == 58 && r2.head? == some 58) (some 0) ((dcI r2).map (· + 1)) = some 0 := e
            cases hx : x == 58 with
            | true => exact hdd (by rw [beq_iff_eq.1 hx]; rfl)
            | false =>
              rw [hx, Bool.false_and, cond_false] at e'
              obtain ⟨q, _, hq⟩ := Option.map_eq_some_iff.1 e'
              omega
        have hnn := split_nn r'
        unfold grpR
        rw [hdc]
        cases hdr : dcI r' with
        | none =>
          show _ = cond ((splitI (p ++ 58 :: r') 58).all hexGB && (b.length + 2 * (splitI (p ++ 58 :: r') 58).length == 16)) (some (b ++ bytesP (splitI (p ++ 58 :: r') 58))) none
          rw [hs, List.all_cons, List.length_cons]
          cases hexGB p with
          | false => rfl
          | true =>
            rw [cond_true, Bool.true_and]
            show cond ((58 : Int) != 58 || (b ++ by2 (hexV p)).length == 16) none (tail2 (colM k) (b ++ by2 (hexV p)) (-1) r') = _
            rw [show ((58 : Int) != 58) = false from rfl, Bool.false_or, hl]
            by_cases h16 : b.length = 14
            · rw [beq_iff_eq.2 (show b.length + 2 = 16 by omega), cond_true, beq_eq_false_iff_ne.2 (show b.length + 2 * ((splitI r' 58).length + 1) ≠ 16 by omega), Bool.and_false]; rfl
            · rw [beq_eq_false_iff_ne.2 (show b.length + 2 ≠ 16 by omega), cond_false]
              cases r' with
              | nil => rfl
              | cons d r2 =>
                have hd : d ≠ 58 := fun e => hdd (by rw [e]; rfl)
                show cond (d != 58) (colM k (b ++ by2 (hexV p)) (-1) (d :: r2)) _ = _
                rw [bne_iff_ne.2 hd, cond_true]
                have hkk : (d :: r2).length < k := by rw [hlen] at hk; omega
                rw [col_nogap k (b ++ by2 (hexV p)) (d :: r2) hkk (by omega) (by omega) hr'0]
                unfold grpR
                rw [hdr]
                show cond (_ && ((b ++ by2 (hexV p)).length + _ == 16)) _ _ = _
                rw [hl, bytesP_cons, List.append_assoc, show b.length + 2 * ((splitI (d :: r2) 58).length + 1) = b.length + 2 + 2 * (splitI (d :: r2) 58).length by omega]
        | some i =>
          have ei : ((some i).map (· + 1)).map (· + p.length) = some (i + 1 + p.length) := rfl
          rw [ei]
          show _ = cond ((partsO ((p ++ 58 :: r').take (i + 1 + p.length))).all hexGB && (partsO ((p ++ 58 :: r').drop (i + 1 + p.length + 2))).all hexGB && decide (b.length + 2 * (partsO ((p ++ 58 :: r').take (i + 1 + p.length))).length + 2 * (partsO ((p ++ 58 :: r').drop (i + 1 + p.length + 2))).length ≤ 14))
            (some (insZ (b ++ bytesP (partsO ((p ++ 58 :: r').take (i + 1 + p.length))) ++ bytesP (partsO ((p ++ 58 :: r').drop (i + 1 + p.length + 2)))) (b.length + 2 * (partsO ((p ++ 58 :: r').take (i + 1 + p.length))).length))) none
          rw [hne (i + 1 + p.length) (by omega), hnd (i + 1 + p.length + 2) (by omega), show i + 1 + p.length - p.length = i + 1 by omega, show i + 1 + p.length + 2 - p.length = (i + 2) + 1 by omega]
          rw [show (58 :: r' : List Int).take (i + 1) = 58 :: r'.take i from rfl, show (58 :: r' : List Int).drop (i + 2 + 1) = r'.drop (i + 2) from rfl]
          rw [partsO_ne (r := p ++ 58 :: r'.take i) (by simp), split_pc p _ hp, List.all_cons, List.length_cons]
          have hi0 : i ≠ 0 := fun e => hr'0 (by rw [hdr, e])
          cases r' with
          | nil => cases hdr
          | cons d r2 =>
            have htk : (d :: r2).take i ≠ [] := by
              obtain ⟨j, rfl⟩ : ∃ j, i = j + 1 := ⟨i - 1, by omega⟩
              simp
            have hnn2 := split_nn ((d :: r2).take i)
            cases hexGB p with
            | false => rfl
            | true =>
              rw [cond_true, Bool.true_and]
              show cond ((58 : Int) != 58 || (b ++ by2 (hexV p)).length == 16) none (tail2 (colM k) (b ++ by2 (hexV p)) (-1) (d :: r2)) = _
              rw [show ((58 : Int) != 58) = false from rfl, Bool.false_or, hl]
              by_cases h16 : b.length = 14
              · rw [beq_iff_eq.2 (show b.length + 2 = 16 by omega), cond_true, decide_eq_false (by omega), Bool.and_false]; rfl
              · rw [beq_eq_false_iff_ne.2 (show b.length + 2 ≠ 16 by omega), cond_false]
                have hd : d ≠ 58 := fun e => hdd (by rw [e]; rfl)
                show cond (d != 58) (colM k (b ++ by2 (hexV p)) (-1) (d :: r2)) _ = _
                rw [bne_iff_ne.2 hd, cond_true]
                have hkk : (d :: r2).length < k := by rw [hlen] at hk; omega
                rw [col_nogap k (b ++ by2 (hexV p)) (d :: r2) hkk (by omega) (by omega) hr'0]
                unfold grpR
                rw [hdr]
                show cond ((partsO ((d :: r2).take i)).all hexGB && (partsO ((d :: r2).drop (i + 2))).all hexGB && decide ((b ++ by2 (hexV p)).length + 2 * (partsO ((d :: r2).take i)).length + 2 * (partsO ((d :: r2).drop (i + 2))).length ≤ 14))
                  (some (insZ (b ++ by2 (hexV p) ++ bytesP (partsO ((d :: r2).take i)) ++ bytesP (partsO ((d :: r2).drop (i + 2)))) ((b ++ by2 (hexV p)).length + 2 * (partsO ((d :: r2).take i)).length))) none = _
                rw [partsO_ne htk, hl, bytesP_cons, ← List.append_assoc b, show b.length + 2 * ((splitI ((d :: r2).take i) 58).length + 1) = b.length + 2 + 2 * (splitI ((d :: r2).take i) 58).length by omega]
end Go.Proofs.YtgfmfgombmpodaaGreatDoor
