/- Texts of this claim, one behind the other. -/
import Derived.Test.YtgfmfgombmpodaaGreatDoorTaleLinesM4
import Derived.Lib.Builder
import Derived.Laws.ResultCell
import Derived.Test.YtgfmfgombmpodaaGreatDoorChecked
import Derived.Laws.CopyOwn
import Derived.Lib.SliceRun
import Derived.Shelf.Spec.SlicesGrow
set_option maxRecDepth 100000
namespace Go.Proofs.YtgfmfgombmpodaaGreatDoor
open Go.RowKit Pv
set_option linter.unusedVariables false
abbrev PatD := Bool × Int × List Int × List Int × Int × Int × Int × Bool
def ruleG (x : RSt) (a : List Int) (allow : Bool) (p : PatD) (sp : Int × Int × Bool) : Option (RSt × Int) :=
  cond (p.2.2.2.2.2.2.2 && sp.2.2) (match x.us[(usAt x.us a).toNat]? with
    | none => none
    | some u => cond (Nat.beq u.2.2.2.2.length 64) (some (x, 7)) (cond (Nat.ble u.2.2.2.2.length 64) (some ({ x with us := x.us.set (usAt x.us a).toNat (u.1, u.2.1, u.2.2.1, u.2.2.2.1, u.2.2.2.2 ++ [(allow, p.2.1, p.2.2.1, (p.2.2.2.1, p.2.2.2.2.1), sp.1, sp.2.1)]) }, 0)) none)) (some (x, 2))
noncomputable def ruleP (x : RSt) (allow : Bool) : List (List Int) → Option (RSt × Int)
  | [a, b, c] => cond (decide (usAt x.us a < 0)) (some (x, 2)) ((F_conf_pattern b).bind fun p => (F_conf_span c).bind fun sp => ruleG x a allow p sp)
  | _ => some (x, 2)
theorem usAt_in : ∀ (us : List UserD) (s : List Int), -1 ≤ usAt us s ∧ usAt us s < us.length
  | [], s => ⟨Int.le_refl _, by show (-1 : Int) < 0; decide⟩
  | u :: us, s => by
    have ih := usAt_in us s
    rw [List.length_cons]
    show -1 ≤ cond (u.1 == s) 0 (cond (decide (usAt us s = -1)) (-1) (usAt us s + 1)) ∧ cond (u.1 == s) 0 (cond (decide (usAt us s = -1)) (-1) (usAt us s + 1)) < _
    cases u.1 == s
    · cases hq : decide (usAt us s = -1)
      · show -1 ≤ usAt us s + 1 ∧ usAt us s + 1 < _
        omega
      · show -1 ≤ (-1 : Int) ∧ (-1 : Int) < _
        omega
    · show -1 ≤ (0 : Int) ∧ (0 : Int) < _
      omega
theorem rl_add_pos (a : Addr) {j : Nat} (hj : j ≠ 0) : a.add j = ⟨a.block, a.off + j, none⟩ := by
  unfold Addr.add
  rw [if_neg hj]
theorem rl_add_0 (a : Addr) : a.add 0 = a := by unfold Addr.add; simp
theorem rl_cell {w w' : World} {a : Addr} {u : Value} (h : w.cell? a = some u) (hb : Below w.heap.size w w') : w'.cell? a = some u := (hb.cell (cell_lt h)).trans h
theorem rule_cells {w : World} {C : Com} {r : RuleD} {cs : List Value} (h : RepD w C ruleT r cs) : ∃ (s3 s4 : ByteArray), cs = [.bool r.1, .int .i64 r.2.1, .string s3, .string s4, .int .i64 r.2.2.2.1.2, .int .i64 r.2.2.2.2.1, .int .i64 r.2.2.2.2.2] ∧ bytesL s3 = r.2.2.1 ∧ bytesL s4 = r.2.2.2.1.1 ∧ s3.size ≤ maxLen ∧ s4.size ≤ maxLen ∧ (Lit.int .i64 r.2.1).wf = true ∧ (Lit.int .i64 r.2.2.2.1.2).wf = true := by
  obtain ⟨d1, e1, rfl, h1, d2, e2, rfl, ⟨rfl, h2⟩, d3, e3, rfl, ⟨s3, rfl, h3, h3'⟩, d4, e4, rfl, ⟨d5, e5, rfl, ⟨s4, rfl, h4, h4'⟩, rfl, h5⟩, d6, e6, rfl, ⟨rfl, _⟩, rfl, _⟩ := h
  have h1 : d1 = [.bool r.1] := h1
  subst h1
  exact ⟨s3, s4, rfl, h3, h4, h3', h4', h2, h5⟩
theorem rule_rep {w : World} {C : Com} {a : Bool} {k n f t : Int} {s3 s4 : ByteArray} (h3 : s3.size ≤ maxLen) (h4 : s4.size ≤ maxLen) (hk : (Lit.int .i64 k).wf = true) (hn : (Lit.int .i64 n).wf = true) (hf : (Lit.int .i64 f).wf = true) (ht : (Lit.int .i64 t).wf = true) :
    RepD w C ruleT ((a, k, bytesL s3, (bytesL s4, n), f, t) : RuleD) [.bool a, .int .i64 k, .string s3, .string s4, .int .i64 n, .int .i64 f, .int .i64 t] :=
  ⟨[_], _, rfl, rfl, [_], _, rfl, ⟨rfl, hk⟩, [_], _, rfl, ⟨s3, rfl, rfl, h3⟩, [_, _], _, rfl, ⟨[_], [_], rfl, ⟨s4, rfl, rfl, h4⟩, rfl, hn⟩, [_], [_], rfl, ⟨rfl, hf⟩, rfl, ht⟩
theorem cells7 {w : World} {b : Nat} {v0 v1 v2 v3 v4 v5 v6 : Value} {T : TypeId} (h : w.heap[b]? = some (.cells #[v0, v1, v2, v3, v4, v5, v6] T (0, 0))) : w.cell? ⟨b, 0, none⟩ = some v0 ∧ w.cell? ⟨b, 1, none⟩ = some v1 ∧ w.cell? ⟨b, 2, none⟩ = some v2 ∧ w.cell? ⟨b, 3, none⟩ = some v3 ∧ w.cell? ⟨b, 4, none⟩ = some v4 ∧ w.cell? ⟨b, 5, none⟩ = some v5 ∧ w.cell? ⟨b, 6, none⟩ = some v6 ∧ ∀ o, w.frozen? ⟨b, o, none⟩ = false := by
  refine ⟨?_, ?_, ?_, ?_, ?_, ?_, ?_, fun o => ?_⟩ <;> first | (rw [cell_at h]; rfl) | simp [World.frozen?, h]
theorem rule_stored {w5 ws : World} {L : Nat} {v0 v1 v2 v3 v4 v5 v6 a f t : Value} {T : TypeId} (h : w5.heap[L]? = some (.cells #[v0, v1, v2, v3, v4, v5, v6] T (0, 0))) (hws : ((w5.setCell ⟨L, 0, none⟩ a).setCell ⟨L, 5, none⟩ f).setCell ⟨L, 6, none⟩ t = ws) :
    ws.heap[L]? = some (.cells #[a, v1, v2, v3, v4, f, t] T (0, 0)) ∧ (∀ k, k ≠ L → ws.heap[k]? = w5.heap[k]?) ∧ ws.heap.size = w5.heap.size ∧ ws.os = w5.os ∧ ws.tape = w5.tape ∧ ws.output = w5.output := by
  subst hws
  refine ⟨?_, fun k hk => ?_, by simp [World.setCell], rfl, rfl, rfl⟩
  · rw [setCell_heap, if_pos rfl, setCell_heap, if_pos rfl, setCell_heap, if_pos rfl, h]
    rfl
  · rw [setCell_heap, if_neg hk, setCell_heap, if_neg hk, setCell_heap, if_neg hk]
theorem rule_end {lo : Nat} {w W0 wz w' : World} {R M U cap m i k : Nat} {role : Nat → Role} {x : RSt} {u : UserD} {r : RuleD} {news rs xs : List Value} {nm : ByteArray} {vs vd vr' : Value} {ra : Option Addr} {rc : Nat} (hm : x.us.length = m) (hlo : lo ≤ w.heap.size) (h : RdAt lo w R M (.slice (some ⟨U, 0, none⟩) m cap) role x)
    (hU : w.ownsRow lo 63 6 (.slice (some ⟨U, 0, none⟩) x.us.length cap) x.us.length xs ∧ (∀ i u, x.us[i]? = some u → UserAt lo w role i u ((xs.drop (i * 6)).take 6)) ∧ role U = .usr) (hu : x.us[i]? = some u) (hcs : (xs.drop (i * 6)).take 6 = [.string nm, vs, vd, .int .i64 u.2.2.1, .complex .f64 u.2.2.2.1.1 u.2.2.2.1.2, .slice ra u.2.2.2.2.length rc]) (hnm : bytesL nm = u.1) (hnmz : nm.size ≤ maxLen) (hwf : (Lit.int .i64 u.2.2.1).wf = true)
    (hvs : RowAt lo w role .flat 5 (.int .u8) u.2.1.1 vs) (hvd : RowAt lo w role .flat 5 (.int .u8) u.2.1.2 vd) (r1 : w.ownsRow lo 68 ruleT.size (.slice ra u.2.2.2.2.length rc) u.2.2.2.2.length rs) (r2 : ∀ b, (Value.slice ra u.2.2.2.2.length rc).ownBlock = some b → role b = .row i) (r3 : ∀ (j : Nat) (y : ruleT.D), (show List ruleT.D from u.2.2.2.2)[j]? = some y → RepD w noC ruleT y ((rs.drop (j * ruleT.size)).take ruleT.size)) (hk : u.2.2.2.2.length = k)
    (hn7 : news.length = 7) (hnew : RepD w noC ruleT r news) (hg : W0.grownBy wz (Value.slice ra k rc).ownBlock) (hown : wz.ownsRow lo 68 7 vr' (k + 1) (rs ++ news)) (hat : vr'.ownBlock = (Value.slice ra k rc).ownBlock ∨ vr'.ownBlock = some W0.heap.size)
    (hW : ∀ b, b < w.heap.size → W0.heap[b]? = w.heap[b]?) (hWs : w.heap.size ≤ W0.heap.size) (hWq : W0.os = w.os ∧ W0.tape = w.tape ∧ W0.output = w.output) (he : w'.heap = (wz.setCell ⟨U, i * 6 + 5, none⟩ vr').heap) (hq : w'.os = wz.os ∧ w'.tape = wz.tape ∧ w'.output = wz.output) :
    RdPost lo R M { x with us := x.us.set i (u.1, u.2.1, u.2.2.1, u.2.2.2.1, u.2.2.2.2 ++ [r]) } 0 (.returned (.int .i64 0)) w w' := by
  subst hm
  subst hk
  obtain ⟨u1, u3, u2⟩ := hU
  have hk : ∀ b, role b ≠ .no → W0.heap[b]? = w.heap[b]? := fun b hb => hW b (h.lt b hb).2
  have hk0 : ∀ b, role b = .flat → role b = .flat ∧ W0.heap[b]? = w.heap[b]? := fun b hb => ⟨hb, hk b (by rw [hb]; intro e; cases e)⟩
  have hUlt := h.lt U (by rw [u2]; intro e; cases e)
  have hvU : (Value.slice ra u.2.2.2.2.length rc).ownBlock ≠ some U := fun e => by
    have := r2 U e
    rw [u2] at this
    cases this
  obtain ⟨role', hr⟩ := put_rule (h.keep hk hWs) hu hn7 (repD_flat rfl hnew) (owns_keep u1 fun b hb => hk b (by
      have e : U = b := by injection hb
      rw [← e, u2]; intro e; cases e)) u2 (fun j y hy => (u3 j y hy).keep fun b hb => ⟨rfl, hk b (by rcases hb with hb | hb <;> (rw [hb]; intro e; cases e))⟩) hcs hnm hnmz hwf (hvs.keep rfl (by intro e; cases e) hk0) (hvd.keep rfl (by intro e; cases e) hk0)
    (owns_keep r1 fun b hb => hk b (by rw [r2 b hb]; intro e; cases e)) r2 (fun j y hy => repD_flat rfl (r3 j y hy)) hg hown hat
  refine ⟨rfl, ⟨hq.1.trans (hg.os.trans hWq.1), hq.2.1.trans (hg.tape.trans hWq.2.1), hq.2.2.trans (hg.output.trans hWq.2.2), ?_, fun b hb => ?_⟩, fun _ => ⟨_, role', hr.keep (fun b _ => by rw [he]) (by rw [he]; exact Nat.le_refl _)⟩⟩
  · rw [he]
    have h2 := hg.size
    have h3 : (wz.setCell ⟨U, i * 6 + 5, none⟩ vr').heap.size = wz.heap.size := by simp [World.setCell]
    omega
  · rw [he, setCell_heap, if_neg (by show b ≠ U; omega), hg.block b (by omega) fun e => ?_, hW b (by omega)]
    have := (h.lt b (by rw [r2 b e.symm]; intro e; cases e)).1
    omega
set_option maxHeartbeats 8000000 in
set_option maxRecDepth 1000000 in
theorem rule_none {lo : Nat} {w : World} {R M : Nat} {v : Value} {role : Nat → Role} {x : RSt} (h : RdAt lo w R M v role x) (hlo : lo ≤ w.heap.size) (few : x.us.length ≤ 16) {allow : Bool} {ad : Addr} {c : Nat} {s0 : ByteArray} (c0 : w.cell? ad = some (.string s0)) (hat : usAt x.us (bytesL s0) < 0) :
    Calls Tryz.prog 97 #[.pointer (some ⟨R, 0, none⟩), .bool allow, .slice (some ad) 3 c] w fun e w' => RdPost lo R M x 2 e w w' := by
  have HL : Aside (lo ≤ w.heap.size ∧ x.us.length ≤ 16 ∧ RdAt lo w R M v role x) := ⟨hlo, few, h⟩
  clear hlo few h
  go_enter Tryz.func97, Tryz.ntmps97
  go_wp2_with (go_at_call 133; refine (at_walk HL.out.2.2 HL.out.2.1 s0).mono ?_; rintro e w2 ⟨rfl, hb2⟩)
  go_ret
  exact ⟨rfl, hb2.mono HL.out.1, fun e => by cases e⟩
set_option maxHeartbeats 16000000 in
set_option maxRecDepth 1000000 in
theorem rule_three {T : Tab} (hf : Facts T) {lo : Nat} {w : World} {R M : Nat} {v : Value} {role : Nat → Role} {x : RSt} (h : RdAt lo w R M v role x) (hT : TabAt T w) (hlo : lo ≤ w.heap.size) (few : x.us.length ≤ 16) {allow : Bool} {ad : Addr} {c : Nat} {s0 s1 s2 : ByteArray} (c0 : w.cell? ad = some (.string s0)) (c1 : w.cell? ⟨ad.block, ad.off + 1, none⟩ = some (.string s1)) (c2 : w.cell? ⟨ad.block, ad.off + 2, none⟩ = some (.string s2))
    (z1 : s1.size ≤ maxLen) (z2 : s2.size ≤ maxLen) {i : Nat} (hi : usAt x.us (bytesL s0) = (i : Int)) {r : RuleD} {b1 b2 : Bool} {pf pt : Int} (hp : F_conf_pattern (bytesL s1) = some (r.1, r.2.1, r.2.2.1, r.2.2.2.1.1, r.2.2.2.1.2, r.2.2.2.2.1, r.2.2.2.2.2, b1)) (hsp : F_conf_span (bytesL s2) = some (pf, pt, b2))
    {x' : RSt} {e' : Int} (hF : ruleG x (bytesL s0) allow (r.1, r.2.1, r.2.2.1, r.2.2.2.1.1, r.2.2.2.1.2, r.2.2.2.2.1, r.2.2.2.2.2, b1) (pf, pt, b2) = some (x', e')) :
    Calls Tryz.prog 97 #[.pointer (some ⟨R, 0, none⟩), .bool allow, .slice (some ad) 3 c] w fun e w' => RdPost lo R M x' e' e w w' := by
  have hin := usAt_in x.us (bytesL s0)
  rw [hi] at hin
  have hil : i < x.us.length := by omega
  obtain ⟨xs, u1, u2, u3⟩ := h.hU
  obtain ⟨U, cap, rfl⟩ : ∃ U cap, v = .slice (some ⟨U, 0, none⟩) x.us.length cap := by
    rcases u1.2 with ⟨rfl, hn0⟩ | ⟨g, cap, cur, rfl, _⟩
    · omega
    · exact ⟨_, _, rfl⟩
  obtain ⟨m, hm⟩ : ∃ m, x.us.length = m := ⟨_, rfl⟩
  have HLN : Aside (x.us.length ≤ 16) := few
  have HP : Aside (F_conf_pattern (bytesL s1) = some (r.1, r.2.1, r.2.2.1, r.2.2.2.1.1, r.2.2.2.1.2, r.2.2.2.2.1, r.2.2.2.2.2, b1) ∧ F_conf_span (bytesL s2) = some (pf, pt, b2)) := ⟨hp, hsp⟩
  have HU : Aside (w.ownsRow lo 63 6 (.slice (some ⟨U, 0, none⟩) x.us.length cap) x.us.length xs ∧ (∀ i u, x.us[i]? = some u → UserAt lo w role i u ((xs.drop (i * 6)).take 6)) ∧ role U = .usr) := ⟨u1, u3, u2 U rfl⟩
  have hatw : ∀ {w' : World}, RdAt lo w' R M (.slice (some ⟨U, 0, none⟩) m cap) role x → Calls Tryz.prog 133 #[.pointer (some ⟨R, 0, none⟩), .string s0] w' fun e w'' => e = .returned (.int .i64 (i : Int)) ∧ Below w'.heap.size w' w'' := fun hr => by
    have := at_walk hr HLN.out s0
    rw [hi] at this
    exact this
  have HF : Aside (ruleG x (bytesL s0) allow (r.1, r.2.1, r.2.2.1, r.2.2.2.1.1, r.2.2.2.1.2, r.2.2.2.2.1, r.2.2.2.2.2, b1) (pf, pt, b2) = some (x', e')) := hF
  have HI : Aside (usAt x.us (bytesL s0) = (i : Int)) := hi
  rw [hm] at h hil
  have hil' : (i : Int) < (m : Int) := by omega
  have HM : Aside (x.us.length = m) := hm
  have HL : Aside (lo ≤ w.heap.size ∧ RdAt lo w R M (.slice (some ⟨U, 0, none⟩) m cap) role x) := ⟨hlo, h⟩
  have HT : Aside (TabAt T w) := hT
  clear u1 u2 u3 hin hi few hF hm hp hsp hlo h hT
  cases hc : (b1 && b2) with
  | false =>
    have hx : some (x, (2 : Int)) = some (x', e') := by
      rw [← HF.out]
      unfold ruleG
      dsimp only
      rw [hc]; rfl
    injection hx with hx
    obtain ⟨rfl, rfl⟩ := Prod.mk.inj hx
    clear HF
    go_enter Tryz.func97, Tryz.ntmps97
    go_wp2_with (first
      | (go_at_call 133; refine (hatw HL.out.2).mono ?_; rintro e w1 ⟨rfl, hb1⟩; have c11 := rl_cell c1 hb1)
      | (go_at_call 136; refine (pattern_calls hf (HT.out.below hb1) z1 HP.out.1).mono ?_; rintro e w2 ⟨cs, rfl, hcs, hb2'⟩; have hb2 := hb1.trans (hb2'.mono hb1.size); clear hb2'; obtain ⟨s3, s4, rfl, k1, k2, k3, k4, k5, k6⟩ := rule_cells hcs; have HK : Aside (_ ∧ _ ∧ _ ∧ _ ∧ _ ∧ _) := ⟨k1, k2, k3, k4, k5, k6⟩; clear hcs k1 k2 k3 k4 k5 k6; have c22 := rl_cell c2 hb2; have hA2 : ad.block < w2.heap.size := show (⟨ad.block, ad.off + 2, none⟩ : Addr).block < _ from cell_lt c22)
      | (go_at_call 137; (refine (span_calls hf (HT.out.below (hb2.alloc hb2.size _)) z2 HP.out.2).mono ?_; rintro e w4 ⟨rfl, q1, q2, hb4'⟩; have hb4 : Below w.heap.size w w4 := (hb2.alloc hb2.size _).trans (hb4'.mono (by simp; exact Nat.le_succ_of_le hb2.size)); have HQ : Aside (_ ∧ _) := ⟨q1, q2⟩; have HB4 : Aside (w4.heap[w2.heap.size]? = _) := (hb4'.block w2.heap.size (by simp)).trans (heap_alloc_new _ _); have HR4 : Aside (RdAt lo w4 R M (.slice (some ⟨U, 0, none⟩) m cap) role x) := HL.out.2.below hb4; clear q1 q2 hb4'; obtain ⟨_, _, _, _, _, _, _, c74, _, fz4⟩ := cells9 HR4.out.hR; have c04 := rl_cell c0 hb4)))
    go_region_with (go_at_call 133; (refine (hatw (w' := w4.drew) (HR4.out.keep (fun b _ => rfl) (Nat.le_refl _))).mono ?_; rintro e w5 ⟨rfl, hb5'⟩; have hb5 : Below w.heap.size w w5 := hb4.trans (Below.mono ⟨hb5'.os, hb5'.tape, hb5'.output, hb5'.size, hb5'.block⟩ hb4.size); obtain ⟨_, _, _, _, _, _, _, c75, _, fz5⟩ := cells9 (HL.out.2.below hb5).hR))
    all_goals go_wp2
    all_goals first
      | exact absurd hc (by decide)
      | (exfalso; simp_all; done)
      | (go_ret
         exact ⟨rfl, hb5.mono HL.out.1, fun e => by cases e⟩)
  | true =>
    rw [Bool.and_eq_true] at hc
    obtain ⟨rfl, rfl⟩ := hc
    obtain ⟨u, hu⟩ : ∃ u, x.us[i]? = some u := ⟨_, List.getElem?_eq_getElem (by rw [HM.out]; exact hil)⟩
    obtain ⟨nm, vs, vd, vr, y1, y2, y3, y4, y5, y6, rs, t1, t2, t3⟩ := HU.out.2.1 i u hu
    obtain ⟨ra, rc, rfl⟩ : ∃ ra rc, vr = .slice ra u.2.2.2.2.length rc := by
      rcases t1.2 with ⟨rfl, hn0⟩ | ⟨g, cap', cur, rfl, _⟩
      · exact ⟨none, 0, by rw [show u.2.2.2.2.length = 0 from hn0]⟩
      · exact ⟨_, _, rfl⟩
    have cU := (user_cells HU.out.1 y1).2.2.2.2.2
    obtain ⟨k, hk⟩ : ∃ k, u.2.2.2.2.length = k := ⟨_, rfl⟩
    have HRW : Aside (w.ownsRow lo 68 7 (.slice ra k rc) k rs ∧ ∀ b, (Value.slice ra k rc).ownBlock = some b → role b = .row i) := by
      rw [← hk]
      exact ⟨t1, t2⟩
    have HY : Aside (_ ∧ _ ∧ _ ∧ _ ∧ _ ∧ _ ∧ _ ∧ _ ∧ _ ∧ _) := ⟨hu, y1, y2, y3, y4, y5, y6, t1, t2, t3⟩
    clear hu y1 y2 y3 y4 y5 y6 t1 t2 t3
    rw [hk] at cU
    have HKK : Aside (u.2.2.2.2.length = k) := hk
    have hg : cond (Nat.beq k 64) (some (x, (7 : Int))) (cond (Nat.ble k 64) (some (({ x with us := x.us.set i (u.1, u.2.1, u.2.2.1, u.2.2.2.1, u.2.2.2.2 ++ [(allow, r.2.1, r.2.2.1, (r.2.2.2.1.1, r.2.2.2.1.2), pf, pt)]) } : RSt), (0 : Int))) none) = some (x', e') := by
      rw [← HF.out]
      unfold ruleG
      dsimp only
      rw [HI.out, Int.toNat_natCast, HY.out.1]
      dsimp only
      rw [hk]
      rfl
    clear hk HF
    by_cases h64 : k = 64
    · rw [h64] at hg
      have hx : some (x, (7 : Int)) = some (x', e') := hg
      injection hx with hx
      obtain ⟨rfl, rfl⟩ := Prod.mk.inj hx
      clear hg
      go_enter Tryz.func97, Tryz.ntmps97
      go_wp2_with (first
        | (go_at_call 133; refine (hatw HL.out.2).mono ?_; rintro e w1 ⟨rfl, hb1⟩; have c11 := rl_cell c1 hb1)
        | (go_at_call 136; refine (pattern_calls hf (HT.out.below hb1) z1 HP.out.1).mono ?_; rintro e w2 ⟨cs, rfl, hcs, hb2'⟩; have hb2 := hb1.trans (hb2'.mono hb1.size); clear hb2'; obtain ⟨s3, s4, rfl, k1, k2, k3, k4, k5, k6⟩ := rule_cells hcs; have HK : Aside (_ ∧ _ ∧ _ ∧ _ ∧ _ ∧ _) := ⟨k1, k2, k3, k4, k5, k6⟩; clear hcs k1 k2 k3 k4 k5 k6; have c22 := rl_cell c2 hb2; have hA2 : ad.block < w2.heap.size := show (⟨ad.block, ad.off + 2, none⟩ : Addr).block < _ from cell_lt c22)
        | (go_at_call 137; (refine (span_calls hf (HT.out.below (hb2.alloc hb2.size _)) z2 HP.out.2).mono ?_; rintro e w4 ⟨rfl, q1, q2, hb4'⟩; have hb4 : Below w.heap.size w w4 := (hb2.alloc hb2.size _).trans (hb4'.mono (by simp; exact Nat.le_succ_of_le hb2.size)); have HQ : Aside (_ ∧ _) := ⟨q1, q2⟩; have HB4 : Aside (w4.heap[w2.heap.size]? = _) := (hb4'.block w2.heap.size (by simp)).trans (heap_alloc_new _ _); have HR4 : Aside (RdAt lo w4 R M (.slice (some ⟨U, 0, none⟩) m cap) role x) := HL.out.2.below hb4; clear q1 q2 hb4'; obtain ⟨_, _, _, _, _, _, _, c74, _, fz4⟩ := cells9 HR4.out.hR; have c04 := rl_cell c0 hb4)))
      go_region_with (go_at_call 133; (refine (hatw (w' := w4.drew) (HR4.out.keep (fun b _ => rfl) (Nat.le_refl _))).mono ?_; rintro e w5 ⟨rfl, hb5'⟩; have hb5 : Below w.heap.size w w5 := hb4.trans (Below.mono ⟨hb5'.os, hb5'.tape, hb5'.output, hb5'.size, hb5'.block⟩ hb4.size); obtain ⟨_, _, _, _, _, _, _, c75, _, fz5⟩ := cells9 (HL.out.2.below hb5).hR; have cU5 := rl_cell cU hb5; have hU5 : U < w5.heap.size := show (⟨U, i * 6 + 5, none⟩ : Addr).block < _ from cell_lt cU5; have hL5 : Aside (w5.heap[w2.heap.size]? = _) := (hb5'.block w2.heap.size (by show w2.heap.size < w4.heap.size; exact (Array.getElem?_eq_some_iff.1 HB4.out).1)).trans HB4.out))
      all_goals go_wp2
      all_goals go_ret
      all_goals exact ⟨rfl, hb5.mono HL.out.1, fun e => by cases e⟩
    · rw [show Nat.beq k 64 = false from Bool.eq_false_iff.2 fun h => h64 (Nat.eq_of_beq_eq_true h), cond_false] at hg
      cases hkl : Nat.ble k 64 with
      | false => rw [hkl] at hg; cases hg
      | true =>
      rw [hkl] at hg
      have hkl := Nat.le_of_ble_eq_true hkl
      injection hg with hg
      obtain ⟨rfl, rfl⟩ := Prod.mk.inj hg
      obtain ⟨i0, hi0, hz0, hz1, hz2⟩ := info_parts infoR
      have HZ : Aside (_ ∧ _ ∧ _ ∧ _) := ⟨hi0, hz0, hz1, hz2⟩
      clear hi0 hz0 hz1 hz2
      go_enter Tryz.func97, Tryz.ntmps97
      go_wp2_with (first
        | (go_at_call 133; refine (hatw HL.out.2).mono ?_; rintro e w1 ⟨rfl, hb1⟩; have c11 := rl_cell c1 hb1)
        | (go_at_call 136; refine (pattern_calls hf (HT.out.below hb1) z1 HP.out.1).mono ?_; rintro e w2 ⟨cs, rfl, hcs, hb2'⟩; have hb2 := hb1.trans (hb2'.mono hb1.size); clear hb2'; obtain ⟨s3, s4, rfl, k1, k2, k3, k4, k5, k6⟩ := rule_cells hcs; have HK : Aside (_ ∧ _ ∧ _ ∧ _ ∧ _ ∧ _) := ⟨k1, k2, k3, k4, k5, k6⟩; clear hcs k1 k2 k3 k4 k5 k6; have c22 := rl_cell c2 hb2; have hA2 : ad.block < w2.heap.size := show (⟨ad.block, ad.off + 2, none⟩ : Addr).block < _ from cell_lt c22)
        | (go_at_call 137; (refine (span_calls hf (HT.out.below (hb2.alloc hb2.size _)) z2 HP.out.2).mono ?_; rintro e w4 ⟨rfl, q1, q2, hb4'⟩; have hb4 : Below w.heap.size w w4 := (hb2.alloc hb2.size _).trans (hb4'.mono (by simp; exact Nat.le_succ_of_le hb2.size)); have HQ : Aside (_ ∧ _) := ⟨q1, q2⟩; have HB4 : Aside (w4.heap[w2.heap.size]? = _) := (hb4'.block w2.heap.size (by simp)).trans (heap_alloc_new _ _); have HR4 : Aside (RdAt lo w4 R M (.slice (some ⟨U, 0, none⟩) m cap) role x) := HL.out.2.below hb4; clear q1 q2 hb4'; obtain ⟨_, _, _, _, _, _, _, c74, _, fz4⟩ := cells9 HR4.out.hR; have c04 := rl_cell c0 hb4)))
      go_region_with (go_at_call 133; (refine (hatw (w' := w4.drew) (HR4.out.keep (fun b _ => rfl) (Nat.le_refl _))).mono ?_; rintro e w5 ⟨rfl, hb5'⟩; have hb5 : Below w.heap.size w w5 := hb4.trans (Below.mono ⟨hb5'.os, hb5'.tape, hb5'.output, hb5'.size, hb5'.block⟩ hb4.size); obtain ⟨_, _, _, _, _, _, _, c75, _, fz5⟩ := cells9 (HL.out.2.below hb5).hR; have cU5 := rl_cell cU hb5; have hU5 : U < w5.heap.size := show (⟨U, i * 6 + 5, none⟩ : Addr).block < _ from cell_lt cU5; have hL5 : Aside (w5.heap[w2.heap.size]? = _) := (hb5'.block w2.heap.size (by show w2.heap.size < w4.heap.size; exact (Array.getElem?_eq_some_iff.1 HB4.out).1)).trans HB4.out; obtain ⟨l0, l1, l2, l3, l4, l5, l6, lz⟩ := cells7 hL5.out))
      all_goals
        go_wp2
        generalize hws : World.setCell _ _ _ = ws
        obtain ⟨e1, e2, e3, e4, e5, e6⟩ := rule_stored hL5.out hws
        clear l0 l1 l2 l3 l4 l5 l6 lz hws
        obtain ⟨l0, l1, l2, l3, l4, l5, l6, lz⟩ := cells7 e1
        have hUw : U < w.heap.size := show (⟨U, i * 6 + 5, none⟩ : Addr).block < _ from cell_lt cU
        have hw25 : w.heap.size ≤ w2.heap.size := hb2.size
        have hws : w.heap.size ≤ ws.heap.size := by rw [e3]; exact hb5.size
        have hold : ∀ b, b < w.heap.size → ws.heap[b]? = w.heap[b]? := fun b hb => (e2 b (by omega)).trans (hb5.block b hb)
        have cUs : ws.cell? ⟨U, i * 6 + 5, none⟩ = some (.slice ra k rc) := (World.cell?_of_block (hold U hUw)).trans cU
        have fUs : ws.frozen? ⟨U, i * 6 + 5, none⟩ = false := (World.frozen?_of_block (hold U hUw)).trans (HU.out.1.frozenAt _)
        have hUs : U < ws.heap.size := by omega
        have hLs : w2.heap.size < ws.heap.size := (Array.getElem?_eq_some_iff.1 e1).1
        have HVU : Aside (some U ≠ (Value.slice ra k rc).ownBlock) := fun e => by
          have h1 := HRW.out.2 U e.symm
          rw [HU.out.2.2] at h1
          cases h1
        have HO : Aside (ws.ownsRow lo 68 7 (.slice ra k rc) k rs) := by
          exact owns_keep HRW.out.1 fun b hb => hold b (HL.out.2.lt b (by rw [HRW.out.2 b hb]; intro e; cases e)).2
        have HH : Aside (_ ∧ _ ∧ _ ∧ _ ∧ _) := ⟨hold, hws, e4.trans hb5.os, e5.trans hb5.tape, e6.trans hb5.output⟩
        clear hold e1 e2 e3 e4 e5 e6 lz cU5 hL5 hU5 hb5' c75 fz5
        go_region_law ((refine step_append_own_at rfl (.tmp 74) (.tmp 76) 61 rfl lo 68 i0 ruleZ 7 72 Tryz.underlying61 HZ.out.1 HZ.out.2.1 HZ.out.2.2.1 HZ.out.2.2.2 rfl (by decide) (.slice ra k rc) k rs (by simp [Act.eval]) (owns_keep HO.out fun b hb => heap_alloc_old _ _ (HO.out.lt b hb).2) ⟨ws.heap.size, 0, none⟩ 1 1 [.bool allow, .int .i64 r.2.1, .string s3, .string s4, .int .i64 r.2.2.2.1.2, .int .i64 pf, .int .i64 pt] (by simp [Act.eval]) rfl (cells_new _ _ _) (fun u hu => List.all_eq_true.1 (show List.all [Value.bool allow, .int .i64 r.2.1, .string s3, .string s4, .int .i64 r.2.2.2.1.2, .int .i64 pf, .int .i64 pt] Value.oneCell' = true from rfl) u hu) (by unfold maxLen; omega) (by omega) (Nat.le_trans HL.out.1 (Nat.le_trans hws (by simp))) ?_; intro v' wz hown' hgrow hat'; obtain ⟨va', vc', rfl⟩ := own_slice hown'; have hUz : wz.heap[U]? = ws.heap[U]? := (hgrow.block U (by simp; omega) HVU.out).trans (heap_alloc_old _ _ hUs); have cUz : wz.cell? ⟨U, i * 6 + 5, none⟩ = some (.slice ra k rc) := (World.cell?_of_block hUz).trans cUs; have fUz : wz.frozen? ⟨U, i * 6 + 5, none⟩ = false := (World.frozen?_of_block hUz).trans fUs))
        all_goals
          go_wp2
          go_ret
          obtain ⟨y0, y1, y2, y3, y4, y5, y6, t1, t2, t3⟩ := HY.out
          exact rule_end HM.out HL.out.1 HL.out.2 HU.out y0 y1 y2 y3 y4 y5 y6 t1 t2 t3 HKK.out rfl (by rw [← HK.out.1, ← HK.out.2.1]; exact rule_rep HK.out.2.2.1 HK.out.2.2.2.1 HK.out.2.2.2.2.1 HK.out.2.2.2.2.2 HQ.out.1 HQ.out.2) hgrow hown' hat' (fun b hb => (heap_alloc_old _ _ (Nat.lt_of_lt_of_le hb hws)).trans (HH.out.1 b hb)) (Nat.le_trans hws (by simp)) HH.out.2.2 rfl ⟨rfl, rfl, rfl⟩
set_option maxHeartbeats 8000000 in
set_option maxRecDepth 1000000 in
theorem rule_walk {T : Tab} (hf : Facts T) {lo : Nat} {w : World} {R M : Nat} {v : Value} {role : Nat → Role} {x : RSt} (h : RdAt lo w R M v role x) (hT : TabAt T w) (hlo : lo ≤ w.heap.size) (few : x.us.length ≤ 16) {allow : Bool} {a : Option Addr} {n c : Nat} {ws : List ByteArray} (hn : ws.length = n) (hws : ∀ i s, ws[i]? = some s → ∃ ad, a = some ad ∧ w.cell? (ad.add i) = some (.string s) ∧ s.size ≤ maxLen) {x' : RSt} {e' : Int} (hF : ruleP x allow (ws.map bytesL) = some (x', e')) :
    Calls Tryz.prog 97 #[.pointer (some ⟨R, 0, none⟩), .bool allow, .slice a n c] w fun e w' => RdPost lo R M x' e' e w w' := by
  by_cases h3 : n = 3
  · subst h3
    match ws, hn, hws, hF with
    | [s0, s1, s2], _, hws, hF =>
    obtain ⟨ad, rfl, c0, z0⟩ := hws 0 s0 rfl
    obtain ⟨_, e1, c1, z1⟩ := hws 1 s1 rfl
    injection e1 with e1
    subst e1
    obtain ⟨_, e1, c2, z2⟩ := hws 2 s2 rfl
    injection e1 with e1
    subst e1
    have c0 : w.cell? ad = some (.string s0) := by rw [rl_add_0] at c0; exact c0
    rw [rl_add_pos _ (by decide)] at c1 c2
    have hF : cond (decide (usAt x.us (bytesL s0) < 0)) (some (x, 2)) ((F_conf_pattern (bytesL s1)).bind fun p => (F_conf_span (bytesL s2)).bind fun sp => ruleG x (bytesL s0) allow p sp) = some (x', e') := hF
    cases hat : decide (usAt x.us (bytesL s0) < 0) with
    | true =>
      rw [hat] at hF
      injection hF with hF
      obtain ⟨rfl, rfl⟩ := Prod.mk.inj hF
      exact rule_none h hlo few c0 (of_decide_eq_true hat)
    | false =>
      rw [hat, cond_false] at hF
      have hat := of_decide_eq_false hat
      obtain ⟨⟨p0, p1, p2, p3, p4, p5, p6, p7⟩, k1, hF⟩ := Option.bind_eq_some_iff.1 hF
      obtain ⟨⟨q0, q1, q2⟩, k2, hF⟩ := Option.bind_eq_some_iff.1 hF
      exact rule_three hf h hT hlo few c0 c1 c2 z1 z2 (i := (usAt x.us (bytesL s0)).toNat) (by omega) (r := (p0, p1, p2, (p3, p4), p5, p6)) (b1 := p7) k1 k2 hF
  · have hF : some (x, (2 : Int)) = some (x', e') := by
      rw [← hF]
      match ws, hn with
      | [], _ => rfl
      | [_], _ => rfl
      | [_, _], _ => rfl
      | [_, _, _], hn => exact absurd hn.symm h3
      | _ :: _ :: _ :: _ :: _, _ => rfl
    injection hF with hF
    obtain ⟨rfl, rfl⟩ := Prod.mk.inj hF
    clear hws hn
    go_enter Tryz.func97, Tryz.ntmps97
    go_wp2
    go_ret
    exact ⟨rfl, Below.refl _ _, fun e => by cases e⟩
def limW (k : Nat) : ByteArray := match k with
  | 0 => ⟨#[99, 111, 110, 110, 115]⟩
  | 1 => ⟨#[115, 116, 114, 101, 97, 109, 115]⟩
  | 2 => ⟨#[98, 117, 102, 102, 101, 114]⟩
  | 3 => ⟨#[108, 111, 103]⟩
  | 4 => ⟨#[105, 100, 108, 101]⟩
  | 5 => ⟨#[100, 105, 97, 108]⟩
  | _ => ⟨#[108, 105, 115, 116]⟩
def limLo (k : Nat) : Int := match k with | 3 => 0 | _ => 1
def limHi (k : Nat) : Int := match k with
  | 0 => 16
  | 1 => 100
  | 2 => 65535
  | 3 => 100000
  | 4 => 1099511627776
  | 5 => 1099511627776
  | _ => 16384
def limCells (R : Nat) : Array Value := #[.string (limW 0), .int .i64 (limLo 0), .int .i64 (limHi 0), .pointer (some ⟨R, 0, none⟩), .string (limW 1), .int .i64 (limLo 1), .int .i64 (limHi 1), .pointer (some ⟨R, 1, none⟩), .string (limW 2), .int .i64 (limLo 2), .int .i64 (limHi 2), .pointer (some ⟨R, 2, none⟩), .string (limW 3), .int .i64 (limLo 3), .int .i64 (limHi 3), .pointer (some ⟨R, 3, none⟩), .string (limW 4), .int .i64 (limLo 4), .int .i64 (limHi 4), .pointer (some ⟨R, 4, none⟩), .string (limW 5), .int .i64 (limLo 5), .int .i64 (limHi 5), .pointer (some ⟨R, 5, none⟩), .string (limW 6), .int .i64 (limLo 6), .int .i64 (limHi 6), .pointer (some ⟨R, 6, none⟩)]
set_option maxHeartbeats 8000000 in
set_option maxRecDepth 1000000 in
theorem lims_walk (R : Nat) (w : World) : Calls Tryz.prog 60 #[.pointer (some ⟨R, 0, none⟩)] w fun e w' => e = .returned (.slice (some ⟨w.heap.size, 0, none⟩) 7 7) ∧ w'.heap[w.heap.size]? = some (.cells (limCells R) 124 (0, 0)) ∧ Below w.heap.size w w' := by
  go_enter Tryz.func60, Tryz.ntmps60
  go_wp2
  go_region
  go_wp2
  go_ret
  exact ⟨rfl, heap_alloc_new w _, Below.drew ((Below.refl _ w).alloc (Nat.le_refl _) _)⟩
theorem lim_at {w : World} {B R : Nat} {T : TypeId} (h : w.heap[B]? = some (.cells (limCells R) T (0, 0))) {k : Nat} (hk : k < 7) : w.cell? ⟨B, k * 4, none⟩ = some (.string (limW k)) ∧ w.cell? ⟨B, k * 4 + 1, none⟩ = some (.int .i64 (limLo k)) ∧ w.cell? ⟨B, k * 4 + 2, none⟩ = some (.int .i64 (limHi k)) ∧ w.cell? ⟨B, k * 4 + 3, none⟩ = some (.pointer (some ⟨R, k, none⟩)) := by
  match k, hk with
  | 0, _ | 1, _ | 2, _ | 3, _ | 4, _ | 5, _ | 6, _ => refine ⟨?_, ?_, ?_, ?_⟩ <;> (rw [cell_at h]; rfl)
  | k + 7, hk => omega
theorem told_find : ∀ (bs : List ByteArray) (l : List MapEntry) (s : ByteArray) (i : Nat), l.map (fun e => (e.key, e.val)) = bs.map (fun x => (Value.string x, Value.bool true)) →
    ((bs.map bytesL).contains (bytesL s) = false ∧ Instr.findNow .string (.string s) l i = some none) ∨ ((bs.map bytesL).contains (bytesL s) = true ∧ ∃ j, Instr.findNow .string (.string s) l i = some (some (j, .bool true)))
  | [], [], s, i, _ => .inl ⟨rfl, rfl⟩
  | [], _ :: _, _, _, h => by cases h
  | _ :: _, [], _, _, h => by cases h
  | k :: bs, e :: l, s, i, h => by
    simp only [List.map_cons, List.cons.injEq, Prod.mk.injEq] at h
    obtain ⟨⟨h1, h2⟩, h3⟩ := h
    unfold Instr.findNow
    by_cases hk : k = s
    · subst hk
      rw [h1]
      exact .inr ⟨by simp, i, by simp [Instr.sameNow, h2, (MapKept.bytes_beq k k).2 rfl]⟩
    · rw [h1]
      have hne : Instr.sameNow .string (.string s) (.string k) = some false := by
        have : (s == k) = false := Bool.eq_false_iff.2 fun e => hk ((MapKept.bytes_beq s k).1 e).symm
        simp [Instr.sameNow, this]
      rw [hne]
      have hb : (bytesL s == bytesL k) = false := by
        rw [Bool.eq_false_iff]
        intro e
        have e : bytesL s = bytesL k := by simpa using e
        have h1 := bytes_eq s k
        rw [show (bytesL s == bytesL k) = true by rw [e]; simp] at h1
        have h2 : s.toList = k.toList := by simpa using h1
        rw [toList_data, toList_data] at h2
        apply hk
        have h3 : s.data = k.data := Array.toList_inj.1 h2
        cases s; cases k; simp_all
      rcases told_find bs l s (i + 1) h3 with ⟨q1, q2⟩ | ⟨q1, q2⟩
      · exact .inl ⟨by rw [List.map_cons, List.contains_cons, q1, hb]; rfl, q2⟩
      · exact .inr ⟨by rw [List.map_cons, List.contains_cons, q1]; simp, q2⟩
theorem run_told {w : World} {m : Nat} {ks : List (List Int)} (h : MapB w m ks) (s : ByteArray) :
    (Instr.lookup 108 (.map (some m)) (.string s) false).run Tryz.prog w = .ok (.bool (ks.contains (bytesL s))) w := by
  obtain ⟨es, clock, hb, _, bs, rfl, he⟩ := h
  have hc : ∀ e, (Instr.checkKey e 10000 9 (.string s)).run Tryz.prog w = .ok () w := fun e => MapKept.run_checkKey (k := .string s) Tryz.underlying9 (by simp [MapKept.IsKey]) e 9999
  rcases told_find bs es.toList s 0 he with ⟨h1, h2⟩ | ⟨h1, j, h2⟩
  · rw [h1]
    simp [Instr.lookup, run_underlying Tryz.underlying108, MapKept.run_getObj_map hb, hc, MapKept.run_findKey Tryz.underlying9 h2, Result.andThen]
  · rw [h1]
    simp [Instr.lookup, run_underlying Tryz.underlying108, MapKept.run_getObj_map hb, hc, MapKept.run_findKey Tryz.underlying9 h2, Result.andThen]
theorem push_modify {α : Type} (es : Array α) (a : α) (f : α → α) : (es.push a).modify es.size f = es.push (f a) := by
  apply Array.ext
  · simp
  · intro i h1 h2
    rw [Array.getElem_modify]
    by_cases hi : es.size = i
    · subst hi
      simp
    · rw [if_neg hi]
      have hlt : i < es.size := by
        simp at h2
        omega
      rw [Array.getElem_push_lt hlt, Array.getElem_push_lt hlt]
def entE (s : ByteArray) (b : Bool) (clock : Nat) : MapEntry := { key := .string s, val := .bool b, born := clock }
theorem ent_found {es : Array MapEntry} {clock : Nat} (hborn : ∀ e ∈ es.toList, e.born < clock) (s : ByteArray) : (es.push (entE s false clock)).findIdx? (fun e => (e.born : Int) == (clock : Int)) = some es.size := by
  rw [Array.findIdx?_push]
  have : es.findIdx? (fun e => (e.born : Int) == (clock : Int)) = none := by
    rw [Array.findIdx?_eq_none_iff]
    intro e hm
    have := hborn e (by simpa using hm)
    simp
    omega
  rw [this]
  simp [entE]
set_option maxHeartbeats 1000000 in
theorem run_entry {w : World} {m : Nat} {ks : List (List Int)} (h : MapB w m ks) {s : ByteArray} (hs : ks.contains (bytesL s) = false) :
    ∃ (st : Nat) (w1 w2 : World), (Instr.mapEntry 108 (.map (some m)) (.string s)).run Tryz.prog w = .ok (.tuple #[.bool false, .int .i64 st]) w1 ∧ (Instr.entryStore 108 (.map (some m)) (.int .i64 st) (.bool true)).run Tryz.prog w1 = .ok () w2 ∧
      MapB w2 m (ks ++ [bytesL s]) ∧ w2.os = w.os ∧ w2.tape = w.tape ∧ w2.output = w.output ∧ w2.heap.size = w.heap.size ∧ ∀ b, b ≠ m → w2.heap[b]? = w.heap[b]? := by
  obtain ⟨es, clock, hb, hborn, bs, rfl, he⟩ := h
  have hc : ∀ e, (Instr.checkKey e 10000 9 (.string s)).run Tryz.prog w = .ok () w := fun e => MapKept.run_checkKey (k := .string s) Tryz.underlying9 (by simp [MapKept.IsKey]) e 9999
  rcases told_find bs es.toList s 0 he with ⟨h1, h2⟩ | ⟨h1, j, h2⟩
  · have hf := ent_found hborn s
    obtain ⟨O1, hO1⟩ : ∃ O1 : Obj, O1 = .map (es.push (entE s false clock)) (clock + 1) := ⟨_, rfl⟩
    obtain ⟨w1, hw1⟩ : ∃ w1 : World, w1 = { w with heap := w.heap.setIfInBounds m O1 } := ⟨_, rfl⟩
    have q1 : w1.heap[m]? = some (.map (es.push (entE s false clock)) (clock + 1)) := by rw [hw1, ← hO1]; exact (MapKept.heap_set hb).1
    have q2 : ∀ b, b ≠ m → w1.heap[b]? = w.heap[b]? := fun b hne => by rw [hw1]; exact (MapKept.heap_set hb).2 b hne
    obtain ⟨O2, hO2⟩ : ∃ O2 : Obj, O2 = .map (es.push (entE s true clock)) (clock + 1) := ⟨_, rfl⟩
    obtain ⟨w2, hw2⟩ : ∃ w2 : World, w2 = { w1 with heap := w1.heap.setIfInBounds m O2 } := ⟨_, rfl⟩
    have r1 : w2.heap[m]? = some (.map (es.push (entE s true clock)) (clock + 1)) := by rw [hw2, ← hO2]; exact (MapKept.heap_set q1).1
    have r2 : ∀ b, b ≠ m → w2.heap[b]? = w1.heap[b]? := fun b hne => by rw [hw2]; exact (MapKept.heap_set q1).2 b hne
    refine ⟨clock, w1, w2, ?_, ?_, ⟨_, _, r1, ?_, bs ++ [s], by simp, ?_⟩, by rw [hw2, hw1], by rw [hw2, hw1], by rw [hw2, hw1], by rw [hw2, hw1]; simp, fun b hne => (r2 b hne).trans (q2 b hne)⟩
    · have hset := MapKept.run_setObj_map (P := Tryz.prog) O1 hb
      rw [← hw1, hO1] at hset
      unfold entE at hset
      simp [Instr.mapEntry, run_underlying Tryz.underlying108, MapKept.run_getObj_map hb, hc, MapKept.run_findKey Tryz.underlying9 h2, hset, Result.andThen, goInt]
    · have hset := MapKept.run_setObj_map (P := Tryz.prog) O2 q1
      rw [← hw2, hO2] at hset
      have hm : (es.push (entE s false clock)).modify es.size (fun e => { e with val := .bool true }) = es.push (entE s true clock) := push_modify _ _ _
      simp [Instr.entryStore, MapKept.run_getObj_map q1, asInt, asIntOf, hf, hm, hset, Result.andThen]
    · intro e hm
      simp at hm
      rcases hm with hm | rfl
      · have := hborn e (by simpa using hm)
        omega
      · show clock < clock + 1
        omega
    · simp [he, entE]
  · rw [h1] at hs; cases hs
def RSt.setLim (x : RSt) (k : Nat) (n : Int) : RSt := match k with
  | 0 => { x with c0 := n }
  | 1 => { x with c1 := n }
  | 2 => { x with c2 := n }
  | 3 => { x with c3 := n }
  | 4 => { x with c4 := n }
  | 5 => { x with c5 := n }
  | _ => { x with c6 := n }
def RSt.lim (x : RSt) (k : Nat) : Int := match k with
  | 0 => x.c0
  | 1 => x.c1
  | 2 => x.c2
  | 3 => x.c3
  | 4 => x.c4
  | 5 => x.c5
  | _ => x.c6
def limAt (a : List Int) : Option Nat := (List.range 7).find? fun k => bytesL (limW k) == a
noncomputable def limitsP (x : RSt) : List (List Int) → Option (RSt × Bool)
  | [a, b] => cond (x.told.contains a) (some (x, false)) (match limAt a with
    | none => some (x, false)
    | some k => (F_conf_number b (limLo k) (limHi k)).bind fun p => some ({ x.setLim k p.1 with told := x.told ++ [a] }, p.2))
  | _ => some (x, false)
theorem told_more {lo : Nat} {W w2 : World} {R M : Nat} {v : Value} {role : Nat → Role} {x : RSt} {k : Nat} {n : Int} {s : ByteArray} (h : RdAt lo W R M v role x) (hk : k < 7) (hn : (Lit.int .i64 n).wf = true) (hm : MapB w2 M (x.told ++ [bytesL s])) (ho : ∀ b, b ≠ M → w2.heap[b]? = (W.setCell ⟨R, k, none⟩ (.int .i64 n)).heap[b]?) (hsz : w2.heap.size = W.heap.size) :
    RdAt lo w2 R M v role { x.setLim k n with told := x.told ++ [bytesL s] } := by
  have hRM : R ≠ M := fun e => by
    have := h.rM
    rw [← e, h.rR] at this
    cases this
  have hkeep : ∀ b, b ≠ M → b ≠ R → w2.heap[b]? = W.heap[b]? := fun b h1 h2 => by
    rw [ho b h1, setCell_heap, if_neg (by show b ≠ R; exact h2)]
  have hne : ∀ b, role b ≠ .rdr → role b ≠ .map → w2.heap[b]? = W.heap[b]? := fun b h1 h2 => hkeep b (fun e => h2 (by rw [e]; exact h.rM)) (fun e => h1 (by rw [e]; exact h.rR))
  have hR := h.hR
  have hwf := h.wf
  obtain ⟨xs, u1, u2, u3⟩ := h.hU
  have hU : UsAt lo w2 role x.us v := ⟨xs, owns_keep u1 fun b hb => hne b (by rw [u2 b hb]; intro e; cases e) (by rw [u2 b hb]; intro e; cases e), u2, fun i u hu => (u3 i u hu).keep fun b hb => ⟨rfl, hne b (by rcases hb with hb | hb <;> (rw [hb]; intro e; cases e)) (by rcases hb with hb | hb <;> (rw [hb]; intro e; cases e))⟩⟩
  have hlt : ∀ b, role b ≠ .no → lo ≤ b ∧ b < w2.heap.size := fun b hb => by rw [hsz]; exact h.lt b hb
  have h2 : w2.heap[R]? = some (.cells (#[Value.int .i64 x.c0, .int .i64 x.c1, .int .i64 x.c2, .int .i64 x.c3, .int .i64 x.c4, .int .i64 x.c5, .int .i64 x.c6, v, .map (some M)].setIfInBounds k (.int .i64 n)) 110 (0, 0)) := by
    rw [ho R hRM]
    exact set_heap hR
  have hints : ∀ c ∈ (x.setLim k n).ints, c = n ∨ c ∈ x.ints := by
    match k, hk with
    | 0, _ | 1, _ | 2, _ | 3, _ | 4, _ | 5, _ | 6, _ =>
      intro c hc
      simp [RSt.setLim, RSt.ints] at hc ⊢
      omega
    | k + 7, hk => omega
  refine ⟨?_, h.rR, hm, h.rM, ?_, hlt, fun c hc => ?_⟩
  · rw [h2]
    match k, hk with
    | 0, _ | 1, _ | 2, _ | 3, _ | 4, _ | 5, _ | 6, _ => rfl
    | k + 7, hk => omega
  · have : (x.setLim k n).us = x.us := by
      unfold RSt.setLim
      split <;> rfl
    show UsAt lo w2 role (x.setLim k n).us v
    rw [this]
    exact hU
  · rcases hints c hc with rfl | h
    · exact hn
    · exact hwf c h
theorem lim_cell {lo : Nat} {W : World} {R M : Nat} {v : Value} {role : Nat → Role} {x : RSt} (h : RdAt lo W R M v role x) {k : Nat} (hk : k < 7) : W.cell? ⟨R, k, none⟩ = some (.int .i64 (x.lim k)) := by
  obtain ⟨c0, c1, c2, c3, c4, c5, c6, _⟩ := cells9 h.hR
  match k, hk with
  | 0, _ => exact c0
  | 1, _ => exact c1
  | 2, _ => exact c2
  | 3, _ => exact c3
  | 4, _ => exact c4
  | 5, _ => exact c5
  | 6, _ => exact c6
  | k + 7, hk => omega
theorem limAt_some {a : List Int} {k : Nat} (hk : k < 7) (h : (bytesL (limW k) == a) = true) (hn : ∀ j, j < k → (bytesL (limW j) == a) = false) : limAt a = some k := by
  unfold limAt
  rw [List.find?_range_eq_some]
  refine ⟨h, by simpa using hk, fun j hj => ?_⟩
  rw [hn j hj]; rfl
theorem limAt_none {a : List Int} (hn : ∀ j, j < 7 → (bytesL (limW j) == a) = false) : limAt a = none := by
  unfold limAt
  rw [List.find?_eq_none]
  intro k hk
  rw [hn k (by simpa using hk)]
  decide
def LmPost (lo : Nat) (R M : Nat) (x' : RSt) (b : Bool) (e : Ending) (w w' : World) : Prop := e = .returned (.bool b) ∧ Below lo w w' ∧ (b = true → ∃ v' role', RdAt lo w' R M v' role' x')
set_option maxHeartbeats 8000000 in
set_option maxRecDepth 1000000 in
theorem lm_few {lo : Nat} {w : World} {R M : Nat} {x : RSt} {a : Option Addr} {n c : Nat} (hn : n ≠ 2) : Calls Tryz.prog 95 #[.pointer (some ⟨R, 0, none⟩), .slice a n c] w fun e w' => LmPost lo R M x false e w w' := by
  have hb : ((n : Int) != 2) = true := by simp; omega
  have hb2 : (n : Int) ≠ 2 := by omega
  go_enter Tryz.func95, Tryz.ntmps95
  go_wp2
  go_region
  all_goals (go_wp2; go_ret)
  all_goals exact ⟨rfl, Below.drew (Below.refl _ w), fun e => by cases e⟩
set_option maxHeartbeats 8000000 in
set_option maxRecDepth 1000000 in
theorem lm_told {lo : Nat} {w : World} {R M : Nat} {v : Value} {role : Nat → Role} {x : RSt} (h : RdAt lo w R M v role x) {ad : Addr} {c : Nat} {s0 : ByteArray} (c0 : w.cell? ad = some (.string s0)) (ht : x.told.contains (bytesL s0) = true) : Calls Tryz.prog 95 #[.pointer (some ⟨R, 0, none⟩), .slice (some ad) 2 c] w fun e w' => LmPost lo R M x false e w w' := by
  have hl := run_told h.hM s0
  have hld := run_told (w := w.drew) (h.hM.keep rfl) s0
  rw [ht] at hl hld
  obtain ⟨_, _, _, _, _, _, _, _, c8, _⟩ := cells9 h.hR
  clear h
  go_enter Tryz.func95, Tryz.ntmps95
  go_wp2
  go_region
  all_goals (go_wp2; go_ret)
  all_goals exact ⟨rfl, Below.drew (Below.refl _ w), fun e => by cases e⟩
theorem lm_add_pos (a : Addr) {j : Nat} (hj : j ≠ 0) : a.add j = ⟨a.block, a.off + j, none⟩ := by
  unfold Addr.add
  rw [if_neg hj]
theorem lm_add_0 (a : Addr) : a.add 0 = a := by unfold Addr.add; simp
theorem lm_cell {w w' : World} {a : Addr} {u : Value} (h : w.cell? a = some u) (hb : Below w.heap.size w w') : w'.cell? a = some u := (hb.cell (cell_lt h)).trans h
theorem lm_word (k : Nat) (s : ByteArray) : ((limW k).toList == s.toList) = (bytesL (limW k) == bytesL s) := bytes_eq _ _
theorem lim_wf (k : Nat) : (Lit.int .i64 (limLo k)).wf = true ∧ (Lit.int .i64 (limHi k)).wf = true := by
  match k with
  | 0 | 1 | 2 | 3 | 4 | 5 => exact ⟨by decide, by decide⟩
  | k + 6 => exact ⟨rfl, rfl⟩
set_option maxHeartbeats 16000000 in
set_option maxRecDepth 1000000 in
theorem lm_two {T : Tab} (hf : Facts T) {lo : Nat} {w : World} {R M : Nat} {v : Value} {role : Nat → Role} {x : RSt} (h : RdAt lo w R M v role x) (hT : TabAt T w) (hlo : lo ≤ w.heap.size) {ad : Addr} {c : Nat} {s0 s1 : ByteArray} (c0 : w.cell? ad = some (.string s0)) (c1 : w.cell? ⟨ad.block, ad.off + 1, none⟩ = some (.string s1)) (z1 : s1.size ≤ maxLen) (hno : role ad.block = .no) (ht : x.told.contains (bytesL s0) = false)
    {x' : RSt} {e' : Bool} (hF : (match limAt (bytesL s0) with
    | none => some (x, false)
    | some k => (F_conf_number (bytesL s1) (limLo k) (limHi k)).bind fun p => some (({ x.setLim k p.1 with told := x.told ++ [bytesL s0] } : RSt), p.2)) = some (x', e')) :
    Calls Tryz.prog 95 #[.pointer (some ⟨R, 0, none⟩), .slice (some ad) 2 c] w fun e w' => LmPost lo R M x' e' e w w' := by
  have hl := run_told h.hM s0
  have hld := run_told (w := w.drew) (h.hM.keep rfl) s0
  rw [ht] at hl hld
  obtain ⟨_, _, _, _, _, _, _, _, c8, _⟩ := cells9 h.hR
  have HL : Aside (lo ≤ w.heap.size ∧ RdAt lo w R M v role x ∧ TabAt T w ∧ role ad.block = .no ∧ x.told.contains (bytesL s0) = false) := ⟨hlo, h, hT, hno, ht⟩
  have HF : Aside ((match limAt (bytesL s0) with
    | none => some (x, false)
    | some k => (F_conf_number (bytesL s1) (limLo k) (limHi k)).bind fun p => some (({ x.setLim k p.1 with told := x.told ++ [bytesL s0] } : RSt), p.2)) = some (x', e')) := hF
  clear h hlo hT hno hF ht
  go_enter Tryz.func95, Tryz.ntmps95
  go_wp2
  go_region
  clear hl hld
  go_wp2_with (go_at_call 60; refine (lims_walk R _).mono ?_; rintro e W1 ⟨rfl, hB, hb1⟩)
  have hb1 : Below w.heap.size w W1 := ⟨hb1.os, hb1.tape, hb1.output, hb1.size, hb1.block⟩
  have HB : Aside (W1.heap[w.heap.size]? = some (.cells (limCells R) 124 (0, 0))) := hB
  clear hB
  go_loopw [27] (fun vi wr => ∃ k : Nat, vi = .int .i64 k ∧ k ≤ 7 ∧ Below W1.heap.size W1 wr ∧ Aside (∀ j, j < k → (bytesL (limW j) == bytesL s0) = false)) (fun vi _ => 7 - (intOf vi).toNat)
  case atStart => exact ⟨0, rfl, by omega, Below.refl _ _, fun j hj => absurd hj (by omega)⟩
  case round =>
    obtain ⟨k, rfl, hk, hbr, HA⟩ := hrel
    have hb2 : Below w.heap.size w wr := hb1.trans (hbr.mono hb1.size)
    by_cases hk7 : k < 7
    · have hBr : wr.heap[w.heap.size]? = some (.cells (limCells R) 124 (0, 0)) := (hbr.block _ (Array.getElem?_eq_some_iff.1 HB.out).1).trans HB.out
      have hBl : w.heap.size < wr.heap.size := (Array.getElem?_eq_some_iff.1 hBr).1
      obtain ⟨k0, k1, k2, k3⟩ := lim_at hBr hk7
      have c0r := lm_cell c0 hb2
      have c1r := lm_cell c1 hb2
      have hadl : ad.block < wr.heap.size := cell_lt c0r
      have hwd := lm_word k s0
      obtain ⟨lw, hlw⟩ : ∃ lw, limW k = lw := ⟨_, rfl⟩
      obtain ⟨llo, hllo⟩ : ∃ l, limLo k = l := ⟨_, rfl⟩
      obtain ⟨lhi, hlhi⟩ : ∃ l, limHi k = l := ⟨_, rfl⟩
      rw [hlw] at k0 hwd
      rw [hllo] at k1
      rw [hlhi] at k2
      have HW : Aside (limW k = lw ∧ limLo k = llo ∧ limHi k = lhi) := ⟨hlw, hllo, hlhi⟩
      clear hBr hlw hllo hlhi
      cases hq : bytesL lw == bytesL s0 with
      | false =>
        rw [hq] at hwd
        have HQ : Aside ((bytesL lw == bytesL s0) = false) := hq
        clear hq
        go_wp2
        go_region
        go_wp2
        refine ⟨⟨k + 1, by simp, by omega, Below.drew (hbr.alloc hbr.size _), fun j hj => ?_⟩, by simp [intOf]; omega⟩
        rcases Nat.lt_or_ge j k with h | h
        · exact HA.out j h
        · obtain rfl : j = k := by omega
          rw [HW.out.1]
          exact HQ.out
      | true =>
        rw [hq] at hwd
        have hfind : limAt (bytesL s0) = some k := limAt_some hk7 (by rw [HW.out.1]; exact hq) HA.out
        have hF := HF.out
        rw [hfind] at hF
        obtain ⟨⟨n, b⟩, hnum, hF⟩ := Option.bind_eq_some_iff.1 hF
        injection hF with hF
        obtain ⟨rfl, rfl⟩ := Prod.mk.inj hF
        rw [HW.out.2.1, HW.out.2.2] at hnum
        obtain ⟨wlo, whi⟩ := lim_wf k
        rw [HW.out.2.1] at wlo
        rw [HW.out.2.2] at whi
        have hTb : ∀ W : World, (∀ b, b < w.heap.size → W.heap[b]? = w.heap[b]?) → TabAt T W := fun W hW p hp => by
          obtain ⟨ty, fr, h1⟩ := HL.out.2.2.1 p hp
          exact ⟨ty, fr, (hW p.1 (Array.getElem?_eq_some_iff.1 h1).1).trans h1⟩
        have hwb : w.heap.size ≤ wr.heap.size := hb2.size
        have hTz : TabAt T (wr.alloc (.cells #[.string lw, .int .i64 llo, .int .i64 lhi, .pointer (some ⟨R, k, none⟩)] 124)).drew.drew := hTb _ fun b hb => (heap_alloc_old wr _ (Nat.lt_of_lt_of_le hb hwb)).trans (hb2.block b hb)
        have HX : Aside (_ ∧ _ ∧ _ ∧ _) := ⟨hTz, hnum, wlo, whi⟩
        clear hTz
        clear HF hfind hq hTb hnum wlo whi
        go_wp2
        go_region
        go_wp2
        go_region_with (go_at_call 131; (refine (number_calls hf HX.out.1 z1 HX.out.2.2.1 HX.out.2.2.2 HX.out.2.1).mono ?_; rintro e w9 ⟨rfl, hwn, hb9⟩))
        all_goals
          have hb9' : Below w.heap.size w w9 := ⟨hb9.os.trans hb2.os, hb9.tape.trans hb2.tape, hb9.output.trans hb2.output, Nat.le_trans hwb (Nat.le_trans (by simp) hb9.size), fun b hb => (hb9.block b (by simp; omega)).trans ((heap_alloc_old wr (.cells #[.string lw, .int .i64 llo, .int .i64 lhi, .pointer (some ⟨R, k, none⟩)] 124) (Nat.lt_of_lt_of_le hb hwb)).trans (hb2.block b hb))⟩
          have ht9 : w9.heap[wr.heap.size]? = some (.cells #[.string lw, .int .i64 llo, .int .i64 lhi, .pointer (some ⟨R, k, none⟩)] 124) := (hb9.block wr.heap.size (by simp)).trans (heap_alloc_new wr _)
          have hp9 : w9.cell? ⟨wr.heap.size, 3, none⟩ = some (.pointer (some ⟨R, k, none⟩)) := by rw [cell_at ht9]; rfl
          have hr9 := HL.out.2.1.below hb9'
          obtain ⟨_, _, _, _, _, _, _, _, c89, fz9⟩ := cells9 hr9.hR
          have cR9 := lim_cell hr9 hk7
          have c09 := lm_cell c0 hb9'
          have hadR : ad.block ≠ R := fun e => by
            have := HL.out.2.2.2.1
            rw [e, HL.out.2.1.rR] at this
            cases this
          have hRM : M ≠ R := fun e => by
            have := HL.out.2.1.rM
            rw [e, HL.out.2.1.rR] at this
            cases this
          have hmb : MapB (w9.setCell ⟨R, k, none⟩ (.int .i64 n)).drew M x.told := hr9.hM.keep (by show (w9.setCell ⟨R, k, none⟩ (.int .i64 n)).heap[M]? = _; rw [setCell_heap, if_neg (by show M ≠ R; exact hRM)])
          obtain ⟨st, wa, wb, hme, hes, hm2, o1, o2, o3, o4, o5⟩ := run_entry hmb HL.out.2.2.2.2
          have HE : Aside (_ ∧ _ ∧ _ ∧ _ ∧ _ ∧ _ ∧ _ ∧ _ ∧ _) := ⟨hm2, o1, o2, o3, o4, o5, hr9, hwn, hb9'⟩
          have fk9 := fz9 k
          clear hm2 o1 o2 o3 o4 o5 hr9 hwn hb9 ht9 hmb fz9 hb9'
          go_wp2
          go_simp
          go_region
          all_goals
            go_wp2
            go_ret
            obtain ⟨hm2, o1, o2, o3, o4, o5, hr9, hwn, hb9'⟩ := HE.out
            refine ⟨rfl, ⟨o1.trans hb9'.os, o2.trans hb9'.tape, o3.trans hb9'.output, ?_, fun b hb => ?_⟩, fun _ => ⟨v, role, told_more hr9 hk7 hwn hm2 o5 (o4.trans (by simp [World.setCell]))⟩⟩
            · rw [o4]
              have := hb9'.size
              simpa [World.setCell, World.drew] using this
            · have hl1 := HL.out.1
              have hl2 := (HL.out.2.1.lt R (by rw [HL.out.2.1.rR]; intro e; cases e)).1
              have hl3 := (HL.out.2.1.lt M (by rw [HL.out.2.1.rM]; intro e; cases e)).1
              rw [o5 b (by omega)]
              show (w9.setCell ⟨R, k, none⟩ (.int .i64 n)).heap[b]? = _
              rw [setCell_heap, if_neg (by show b ≠ R; omega)]
              exact hb9'.block b (by omega)
    · obtain rfl : k = 7 := by omega
      have hx : some (x, false) = some (x', e') := by
        rw [← HF.out, limAt_none HA.out]
      injection hx with hx
      obtain ⟨rfl, rfl⟩ := Prod.mk.inj hx
      clear HF
      go_wp2
      go_ret
      exact ⟨rfl, hb2.mono HL.out.1, fun e => by cases e⟩
theorem lm_walk {T : Tab} (hf : Facts T) {lo : Nat} {w : World} {R M : Nat} {v : Value} {role : Nat → Role} {x : RSt} (h : RdAt lo w R M v role x) (hT : TabAt T w) (hlo : lo ≤ w.heap.size) {a : Option Addr} {n c : Nat} {ws : List ByteArray} (hn : ws.length = n) (hws : ∀ i s, ws[i]? = some s → ∃ ad, a = some ad ∧ w.cell? (ad.add i) = some (.string s) ∧ s.size ≤ maxLen) (hno : ∀ ad, a = some ad → role ad.block = .no) {x' : RSt} {e' : Bool} (hF : limitsP x (ws.map bytesL) = some (x', e')) :
    Calls Tryz.prog 95 #[.pointer (some ⟨R, 0, none⟩), .slice a n c] w fun e w' => LmPost lo R M x' e' e w w' := by
  by_cases h2 : n = 2
  · subst h2
    match ws, hn, hws, hF with
    | [s0, s1], _, hws, hF =>
    obtain ⟨ad, rfl, c0, z0⟩ := hws 0 s0 rfl
    obtain ⟨_, e1, c1, z1⟩ := hws 1 s1 rfl
    injection e1 with e1
    subst e1
    have c0 : w.cell? ad = some (.string s0) := by rw [lm_add_0] at c0; exact c0
    rw [lm_add_pos _ (by decide)] at c1
    have hF : cond (x.told.contains (bytesL s0)) (some (x, false)) (match limAt (bytesL s0) with
      | none => some (x, false)
      | some k => (F_conf_number (bytesL s1) (limLo k) (limHi k)).bind fun p => some (({ x.setLim k p.1 with told := x.told ++ [bytesL s0] } : RSt), p.2)) = some (x', e') := hF
    cases ht : x.told.contains (bytesL s0) with
    | true =>
      rw [ht] at hF
      injection hF with hF
      obtain ⟨rfl, rfl⟩ := Prod.mk.inj hF
      refine (lm_told h c0 ht).mono fun e w' ⟨q1, q2, q3⟩ => ⟨q1, q2, q3⟩
    | false =>
      rw [ht, cond_false] at hF
      exact lm_two hf h hT hlo c0 c1 z1 (hno ad rfl) ht hF
  · have hF : some (x, false) = some (x', e') := by
      rw [← hF]
      match ws, hn with
      | [], _ => rfl
      | [_], _ => rfl
      | [_, _], hn => exact absurd hn.symm h2
      | _ :: _ :: _ :: _, _ => rfl
    injection hF with hF
    obtain ⟨rfl, rfl⟩ := Prod.mk.inj hF
    exact lm_few h2
theorem strs_of : ∀ (l : List (List Int)) (cur : Array Value), (∀ (i : Nat) (y : List Int), l[i]? = some y → ∃ t : ByteArray, cur[i]? = some (.string t) ∧ bytesL t = y ∧ t.size ≤ maxLen) → ∃ ws : List ByteArray, ws.map bytesL = l ∧ ∀ (i : Nat) (t : ByteArray), ws[i]? = some t → cur[i]? = some (.string t) ∧ t.size ≤ maxLen := by
  intro l cur h
  have key : ∀ k, k ≤ l.length → ∃ ws : List ByteArray, ws.map bytesL = l.take k ∧ ∀ (i : Nat) (t : ByteArray), ws[i]? = some t → cur[i]? = some (.string t) ∧ t.size ≤ maxLen := by
    intro k
    induction k with
    | zero => exact fun _ => ⟨[], rfl, fun i t ht => by simp at ht⟩
    | succ k ih =>
      intro hk
      obtain ⟨ws, h1, h2⟩ := ih (by omega)
      have hget : l[k]? = some l[k] := List.getElem?_eq_getElem (by omega)
      obtain ⟨t, ht, ht2, ht3⟩ := h k _ hget
      have hl : ws.length = k := by
        have := congrArg List.length h1
        rw [List.length_map, List.length_take] at this
        omega
      refine ⟨ws ++ [t], ?_, fun i u hu => ?_⟩
      · rw [List.map_append, h1, List.take_add_one, hget, ← ht2]; rfl
      · rcases Nat.lt_or_ge i ws.length with hi | hi
        · rw [List.getElem?_append_left hi] at hu
          exact h2 i u hu
        · rw [List.getElem?_append_right hi] at hu
          have hi2 : i = k := by
            have := (List.getElem?_eq_some_iff.1 hu).1
            simp at this
            omega
          subst hi2
          rw [hl, Nat.sub_self] at hu
          injection hu with hu
          subst hu
          exact ⟨ht, ht3⟩
  obtain ⟨ws, h1, h2⟩ := key l.length (Nat.le_refl _)
  exact ⟨ws, by rw [h1, List.take_length], h2⟩
theorem split_calls {T : Tab} (hf : Facts T) {W : World} (hT : TabAt T W) {s : ByteArray} (hs : s.size ≤ maxLen) (hz : Nat.ble (bytesL s).length 4000000000 = true) :
    Calls Tryz.prog 94 #[.string s, .string ⟨#[32]⟩] W fun e W' => ∃ (B cap : Nat) (ws : List ByteArray), e = .returned (.slice (some ⟨B, 0, none⟩) ws.length cap) ∧ ws.map bytesL = splitI (bytesL s) 32 ∧ W.heap.size ≤ B ∧ B < W'.heap.size ∧ ws.length ≤ cap ∧ (∀ (i : Nat) (t : ByteArray), ws[i]? = some t → W'.cell? ⟨B, i, none⟩ = some (.string t) ∧ t.size ≤ maxLen) ∧ Below W.heap.size W W' := by
  have h : F_strings_Split (bytesL s) [32] = some (splitI (bytesL s) 32) := by
    unfold F_strings_Split
    dsimp only
    rw [hz]; rfl
  refine (fn_calls hT (s := F_strings_Split_sig) (al := [⟨false, flat .str (bytesL s), .string s⟩, ⟨false, flat .str (bytesL ⟨#[32]⟩), .string ⟨#[32]⟩⟩]) (y := (splitI (bytesL s) 32 : List (List Int))) (F_strings_Split_sound hf.maxlen) rfl Tryz.func94
    (List.forall_mem_cons.2 ⟨str_ok hs, List.forall_mem_cons.2 ⟨str_ok (by decide), fun a h => by cases h⟩⟩) (appF_c (appF_c (appF_n h)))).mono ?_
  obtain ⟨l, hl⟩ : ∃ l, splitI (bytesL s) 32 = l := ⟨_, rfl⟩
  have hne : l ≠ [] := by rw [← hl]; exact splitI_ne _ _
  rw [hl]
  rintro e W' ⟨us, g', st', rfl, h1, h2, h3, h4⟩
  have e2 : (exitSt F_strings_Split_sig (l : List (List Int))).map (fun st => (st.φ 0, st.O (.hd 0 0))) = some (.w false [.own (.hd 0 0) 9 .str l], true) := rfl
  rw [h2] at e2
  injection e2 with e2
  have q0 := h4 0
  rw [show st'.φ 0 = _ from congrArg Prod.fst e2] at q0
  have hO : st'.O (.hd 0 0) = true := congrArg Prod.snd e2
  obtain ⟨u, rfl⟩ : ∃ u, us = [u] := by
    match us, h1 with
    | [u], _ => exact ⟨u, rfl⟩
  obtain ⟨cs, g1, g2⟩ := q0
  have g2 : cs = [u] := g2
  subst g2
  obtain ⟨c1, c2, g3, ⟨hrd, hown⟩, g4⟩ := g1
  have g4 : c2 = [] := g4
  subst g4
  rw [List.append_nil] at g3
  subst g3
  obtain ⟨v, hv, hOw⟩ := hown hO
  injection hv with hv
  subst hv
  rcases hOw with ⟨a, _, hnil, _⟩ | ⟨bl, cap, cur, hv2, hblk, hcell, hlc, hcm, hcs, hel, hC, hW⟩
  · exact absurd hnil hne
  have hcs : cur.size = cap * 1 := hcs
  have hlc : l.length ≤ cap := hlc
  have hel2 : ∀ (i : Nat) (y : List Int), l[i]? = some y → ∃ t : ByteArray, cur[i]? = some (.string t) ∧ bytesL t = y ∧ t.size ≤ maxLen := fun i y hy => by
    obtain ⟨t, ht, ht2, ht3⟩ := hel i y hy
    have hi : i < l.length := (List.getElem?_eq_some_iff.1 hy).1
    have hic : i < cur.size := by omega
    refine ⟨t, ?_, ht2, ht3⟩
    rw [show (Ty.str).size = 1 from rfl, Nat.mul_one, List.drop_eq_getElem_cons (by simpa using hic)] at ht
    simp only [List.take_succ_cons, List.take_zero, List.cons.injEq, and_true, Array.getElem_toList] at ht
    rw [Array.getElem?_eq_getElem hic, ht]
  obtain ⟨ws, hwl, hw2⟩ : ∃ ws : List ByteArray, ws.map bytesL = l ∧ ∀ (i : Nat) (t : ByteArray), ws[i]? = some t → cur[i]? = some (.string t) ∧ t.size ≤ maxLen := strs_of l cur hel2
  have hwlen : ws.length = l.length := by rw [← hwl, List.length_map]
  refine ⟨bl, cap, ws, ?_, hwl, ?_, (Array.getElem?_eq_some_iff.1 hcell).1, by omega, fun i t ht => ?_, h3⟩
  · show Ending.returned u = _
    rw [hv2, hwlen]
    rfl
  · rcases hW _ (Nat.le_refl _) with h | h
    · exact h
    · exact h.elim
  · obtain ⟨k1, k2⟩ := hw2 i t ht
    exact ⟨by rw [cell_at hcell]; exact k1, k2⟩
def lbL : List Int := [108, 105, 109, 105, 116]
def lbU : List Int := [117, 115, 101, 114]
def lbA : List Int := [97, 108, 108, 111, 119]
def lbD : List Int := [100, 101, 110, 121]
theorem ln_lit (s : ByteArray) (l : List UInt8) : (s.toList == l) = (bytesL s == l.map byteI) := by
  have h := bytes_eq s ⟨l.toArray⟩
  have e : (⟨l.toArray⟩ : ByteArray).toList = l := by rw [toList_data]
  rw [e] at h
  exact h
noncomputable def lineW (x : RSt) (w0 : List Int) (ws : List (List Int)) : Option (RSt × Int) :=
  cond (w0 == lbL) ((limitsP x ws).map fun p => (p.1, cond p.2 0 2)) (cond (w0 == lbU) (userP x ws) (cond (w0 == lbA) (ruleP x true ws) (cond (w0 == lbD) (ruleP x false ws) (some (x, 2)))))
noncomputable def lineP (x : RSt) (s : List Int) : Option (RSt × Int) := cond (Nat.ble s.length 4000000000 && Nat.ble x.us.length 16) (match splitI s 32 with
  | [] => none
  | w0 :: ws => lineW x w0 ws) none
theorem tail1 {w : World} {B : Nat} {s0 : ByteArray} {ts : List ByteArray} (h : ∀ (i : Nat) (t : ByteArray), (s0 :: ts)[i]? = some t → w.cell? ⟨B, i, none⟩ = some (.string t) ∧ t.size ≤ maxLen) :
    ∀ i t, ts[i]? = some t → ∃ ad, some (⟨B, 1, none⟩ : Addr) = some ad ∧ w.cell? (ad.add i) = some (.string t) ∧ t.size ≤ maxLen := fun i t ht => by
  obtain ⟨h1, h2⟩ := h (i + 1) t ht
  refine ⟨⟨B, 1, none⟩, rfl, ?_, h2⟩
  rw [add_at, Nat.add_comm]
  exact h1
theorem tail0 {w : World} {a : Option Addr} {ts : List ByteArray} (h : ts.length = 0) :
    ∀ i t, ts[i]? = some t → ∃ ad, a = some ad ∧ w.cell? (ad.add i) = some (.string t) ∧ t.size ≤ maxLen := fun i t ht => by
  have := (List.getElem?_eq_some_iff.1 ht).1
  omega
theorem no_blk {role : Nat → Role} {B o : Nat} (h : role B = .no) : ∀ ad, some (⟨B, o, none⟩ : Addr) = some ad → role ad.block = .no := fun ad e => by
  injection e with e
  rw [← e]; exact h
theorem ws_cons {ws : List ByteArray} {w0 : List Int} {rest : List (List Int)} (h : ws.map bytesL = w0 :: rest) : ∃ s0 ts, ws = s0 :: ts ∧ bytesL s0 = w0 ∧ ts.map bytesL = rest := by
  cases ws with
  | nil => cases h
  | cons s0 ts =>
    injection h with h1 h2
    exact ⟨s0, ts, rfl, h1, h2⟩
set_option maxHeartbeats 16000000 in
set_option maxRecDepth 1000000 in
theorem line_lim {T : Tab} (hf : Facts T) {lo : Nat} {w : World} {R M : Nat} {v : Value} {role : Nat → Role} {x : RSt} (h : RdAt lo w R M v role x) (hT : TabAt T w) (hlo : lo ≤ w.heap.size) (few : x.us.length ≤ 16) {s : ByteArray} (hs : s.size ≤ maxLen) (hz : Nat.ble (bytesL s).length 4000000000 = true) {w0 : List Int} {rest : List (List Int)} (hspl : splitI (bytesL s) 32 = w0 :: rest) (hk : (w0 == ([108, 105, 109, 105, 116] : List UInt8).map byteI) = true ∧ True ∧ True ∧ True) {x' : RSt} {b : Bool} (hF : limitsP x rest = some (x', b)) :
    Calls Tryz.prog 54 #[.pointer (some ⟨R, 0, none⟩), .string s] w fun e w' => RdPost lo R M x' (cond b 0 2) e w w' := by
  have hsp := split_calls hf hT hs hz
  have HL : Aside (lo ≤ w.heap.size ∧ RdAt lo w R M v role x ∧ TabAt T w ∧ x.us.length ≤ 16) := ⟨hlo, h, hT, few⟩
  have HS : Aside (splitI (bytesL s) 32 = w0 :: rest) := hspl
  have HK : Aside ((w0 == ([108, 105, 109, 105, 116] : List UInt8).map byteI) = true ∧ True ∧ True ∧ True) := hk
  clear hlo h hT few hz hspl hk
  have HF : Aside (limitsP x rest = some (x', b)) := hF
  clear hF
  go_enter Tryz.func54, Tryz.ntmps54
  go_wp2_with (first
    | (go_at_call 94; (refine hsp.mono ?_; rintro e w1 ⟨B, cap, ws, rfl, hwl, hB, hBl, hcap, hcell, hb1⟩; obtain ⟨s0, ts, rfl, hs0, hts⟩ := ws_cons (hwl.trans HS.out); have c10 : w1.cell? ⟨B, 0, none⟩ = some (.string s0) := (hcell 0 s0 rfl).1; have hcap : ts.length + 1 ≤ cap := hcap; have HW : Aside (RdAt lo w1 R M v role x ∧ TabAt T w1 ∧ lo ≤ w1.heap.size ∧ (∀ i t, ts[i]? = some t → ∃ ad, some (⟨B, 1, none⟩ : Addr) = some ad ∧ w1.cell? (ad.add i) = some (.string t) ∧ t.size ≤ maxLen) ∧ role B = .no ∧ ts.map bytesL = rest ∧ Below lo w w1) := ⟨HL.out.2.1.below hb1, HL.out.2.2.1.below hb1, Nat.le_trans HL.out.1 hb1.size, tail1 hcell, Classical.byContradiction (fun hr => absurd (HL.out.2.1.lt B hr).2 (by omega)), hts, hb1.mono HL.out.1⟩; have e0 : (s0.toList == [108, 105, 109, 105, 116]) = true := by { rw [ln_lit, hs0]; exact HK.out.1 }; clear hcell hwl hts hs0 hb1)))
  · have hl : limitsP x (ts.map bytesL) = some (x', b) := by rw [HW.out.2.2.2.2.2.1]; exact HF.out
    have ht0 : ts.length = 0 := by omega
    refine (lm_walk hf HW.out.1 HW.out.2.1 HW.out.2.2.1 (a := some ⟨B, 0, none⟩) (n := ts.length) (c := 0) (ws := ts) rfl (tail0 ht0) (no_blk HW.out.2.2.2.2.1) hl).mono ?_
    rintro e w2 ⟨rfl, hb2, h2⟩
    clear e0 hcap
    cases b with
    | true =>
      go_wp2
      go_ret
      exact ⟨rfl, HW.out.2.2.2.2.2.2.trans hb2, fun _ => h2 trivial⟩
    | false =>
      go_wp2
      go_ret
      exact ⟨rfl, HW.out.2.2.2.2.2.2.trans hb2, fun e => by cases e⟩
  · have hl : limitsP x (ts.map bytesL) = some (x', b) := by rw [HW.out.2.2.2.2.2.1]; exact HF.out
    refine (lm_walk hf HW.out.1 HW.out.2.1 HW.out.2.2.1 (a := some ⟨B, 1, none⟩) (n := ts.length) (c := cap - 1) (ws := ts) rfl HW.out.2.2.2.1 (no_blk HW.out.2.2.2.2.1) hl).mono ?_
    rintro e w2 ⟨rfl, hb2, h2⟩
    clear e0 hcap
    cases b with
    | true =>
      go_wp2
      go_ret
      exact ⟨rfl, HW.out.2.2.2.2.2.2.trans hb2, fun _ => h2 trivial⟩
    | false =>
      go_wp2
      go_ret
      exact ⟨rfl, HW.out.2.2.2.2.2.2.trans hb2, fun e => by cases e⟩
set_option maxHeartbeats 16000000 in
set_option maxRecDepth 1000000 in
theorem line_user {T : Tab} (hf : Facts T) {lo : Nat} {w : World} {R M : Nat} {v : Value} {role : Nat → Role} {x : RSt} (h : RdAt lo w R M v role x) (hT : TabAt T w) (hlo : lo ≤ w.heap.size) (few : x.us.length ≤ 16) {s : ByteArray} (hs : s.size ≤ maxLen) (hz : Nat.ble (bytesL s).length 4000000000 = true) {w0 : List Int} {rest : List (List Int)} (hspl : splitI (bytesL s) 32 = w0 :: rest) (hk : (w0 == ([108, 105, 109, 105, 116] : List UInt8).map byteI) = false ∧ (w0 == ([117, 115, 101, 114] : List UInt8).map byteI) = true ∧ True ∧ True) {x' : RSt} {e' : Int} (hF : userP x rest = some (x', e')) :
    Calls Tryz.prog 54 #[.pointer (some ⟨R, 0, none⟩), .string s] w fun e w' => RdPost lo R M x' e' e w w' := by
  have hsp := split_calls hf hT hs hz
  have HL : Aside (lo ≤ w.heap.size ∧ RdAt lo w R M v role x ∧ TabAt T w ∧ x.us.length ≤ 16) := ⟨hlo, h, hT, few⟩
  have HS : Aside (splitI (bytesL s) 32 = w0 :: rest) := hspl
  have HK : Aside ((w0 == ([108, 105, 109, 105, 116] : List UInt8).map byteI) = false ∧ (w0 == ([117, 115, 101, 114] : List UInt8).map byteI) = true ∧ True ∧ True) := hk
  clear hlo h hT few hz hspl hk
  have HF : Aside (userP x rest = some (x', e')) := hF
  clear hF
  go_enter Tryz.func54, Tryz.ntmps54
  go_wp2_with (go_at_call 94; (refine hsp.mono ?_; rintro e w1 ⟨B, cap, ws, rfl, hwl, hB, hBl, hcap, hcell, hb1⟩; obtain ⟨s0, ts, rfl, hs0, hts⟩ := ws_cons (hwl.trans HS.out); have c10 : w1.cell? ⟨B, 0, none⟩ = some (.string s0) := (hcell 0 s0 rfl).1; have hcap : ts.length + 1 ≤ cap := hcap; have HW : Aside (RdAt lo w1 R M v role x ∧ TabAt T w1 ∧ lo ≤ w1.heap.size ∧ (∀ i t, ts[i]? = some t → ∃ ad, some (⟨B, 1, none⟩ : Addr) = some ad ∧ w1.cell? (ad.add i) = some (.string t) ∧ t.size ≤ maxLen) ∧ role B = .no ∧ ts.map bytesL = rest ∧ Below lo w w1) := ⟨HL.out.2.1.below hb1, HL.out.2.2.1.below hb1, Nat.le_trans HL.out.1 hb1.size, tail1 hcell, Classical.byContradiction (fun hr => absurd (HL.out.2.1.lt B hr).2 (by omega)), hts, hb1.mono HL.out.1⟩; have e0 : (s0.toList == [108, 105, 109, 105, 116]) = false := by { rw [ln_lit, hs0]; exact HK.out.1 }; have e1 : (s0.toList == [117, 115, 101, 114]) = true := by { rw [ln_lit, hs0]; exact HK.out.2.1 }; clear hcell hwl hts hs0 hb1))
  · have hl : userP x (ts.map bytesL) = some (x', e') := by rw [HW.out.2.2.2.2.2.1]; exact HF.out
    have ht0 : ts.length = 0 := by omega
    refine (user_walk hf HW.out.1 HW.out.2.1 HW.out.2.2.1 HL.out.2.2.2 (a := some ⟨B, 0, none⟩) (n := ts.length) (c := 0) (ws := ts) rfl (tail0 ht0) hl).mono ?_
    rintro e w2 ⟨rfl, hb2, h2⟩
    have H2 : Aside (_ ∧ _) := ⟨hb2, h2⟩
    clear e0 e1 hcap hb2 h2
    go_wp2
    go_ret
    exact ⟨rfl, HW.out.2.2.2.2.2.2.trans H2.out.1, H2.out.2⟩
  · have hl : userP x (ts.map bytesL) = some (x', e') := by rw [HW.out.2.2.2.2.2.1]; exact HF.out
    refine (user_walk hf HW.out.1 HW.out.2.1 HW.out.2.2.1 HL.out.2.2.2 (a := some ⟨B, 1, none⟩) (n := ts.length) (c := cap - 1) (ws := ts) rfl HW.out.2.2.2.1 hl).mono ?_
    rintro e w2 ⟨rfl, hb2, h2⟩
    have H2 : Aside (_ ∧ _) := ⟨hb2, h2⟩
    clear e0 e1 hcap hb2 h2
    go_wp2
    go_ret
    exact ⟨rfl, HW.out.2.2.2.2.2.2.trans H2.out.1, H2.out.2⟩
set_option maxHeartbeats 16000000 in
set_option maxRecDepth 1000000 in
theorem line_none {T : Tab} (hf : Facts T) {lo : Nat} {w : World} {R M : Nat} {v : Value} {role : Nat → Role} {x : RSt} (h : RdAt lo w R M v role x) (hT : TabAt T w) (hlo : lo ≤ w.heap.size) (few : x.us.length ≤ 16) {s : ByteArray} (hs : s.size ≤ maxLen) (hz : Nat.ble (bytesL s).length 4000000000 = true) {w0 : List Int} {rest : List (List Int)} (hspl : splitI (bytesL s) 32 = w0 :: rest) (hk : (w0 == ([108, 105, 109, 105, 116] : List UInt8).map byteI) = false ∧ (w0 == ([117, 115, 101, 114] : List UInt8).map byteI) = false ∧ (w0 == ([97, 108, 108, 111, 119] : List UInt8).map byteI) = false ∧ (w0 == ([100, 101, 110, 121] : List UInt8).map byteI) = false) :
    Calls Tryz.prog 54 #[.pointer (some ⟨R, 0, none⟩), .string s] w fun e w' => RdPost lo R M x 2 e w w' := by
  have hsp := split_calls hf hT hs hz
  have HL : Aside (lo ≤ w.heap.size ∧ RdAt lo w R M v role x ∧ TabAt T w ∧ x.us.length ≤ 16) := ⟨hlo, h, hT, few⟩
  have HS : Aside (splitI (bytesL s) 32 = w0 :: rest) := hspl
  have HK : Aside ((w0 == ([108, 105, 109, 105, 116] : List UInt8).map byteI) = false ∧ (w0 == ([117, 115, 101, 114] : List UInt8).map byteI) = false ∧ (w0 == ([97, 108, 108, 111, 119] : List UInt8).map byteI) = false ∧ (w0 == ([100, 101, 110, 121] : List UInt8).map byteI) = false) := hk
  clear hlo h hT few hz hspl hk
  go_enter Tryz.func54, Tryz.ntmps54
  go_wp2_with (go_at_call 94; (refine hsp.mono ?_; rintro e w1 ⟨B, cap, ws, rfl, hwl, hB, hBl, hcap, hcell, hb1⟩; obtain ⟨s0, ts, rfl, hs0, hts⟩ := ws_cons (hwl.trans HS.out); have c10 : w1.cell? ⟨B, 0, none⟩ = some (.string s0) := (hcell 0 s0 rfl).1; have hcap : ts.length + 1 ≤ cap := hcap; have HW : Aside (RdAt lo w1 R M v role x ∧ TabAt T w1 ∧ lo ≤ w1.heap.size ∧ (∀ i t, ts[i]? = some t → ∃ ad, some (⟨B, 1, none⟩ : Addr) = some ad ∧ w1.cell? (ad.add i) = some (.string t) ∧ t.size ≤ maxLen) ∧ role B = .no ∧ ts.map bytesL = rest ∧ Below lo w w1) := ⟨HL.out.2.1.below hb1, HL.out.2.2.1.below hb1, Nat.le_trans HL.out.1 hb1.size, tail1 hcell, Classical.byContradiction (fun hr => absurd (HL.out.2.1.lt B hr).2 (by omega)), hts, hb1.mono HL.out.1⟩; have e0 : (s0.toList == [108, 105, 109, 105, 116]) = false := by { rw [ln_lit, hs0]; exact HK.out.1 }; have e1 : (s0.toList == [117, 115, 101, 114]) = false := by { rw [ln_lit, hs0]; exact HK.out.2.1 }; have e2 : (s0.toList == [97, 108, 108, 111, 119]) = false := by { rw [ln_lit, hs0]; exact HK.out.2.2.1 }; have e3 : (s0.toList == [100, 101, 110, 121]) = false := by { rw [ln_lit, hs0]; exact HK.out.2.2.2 }; clear hcell hwl hts hs0 hb1))
  go_ret
  exact ⟨rfl, HW.out.2.2.2.2.2.2, fun e => by cases e⟩
set_option maxHeartbeats 16000000 in
set_option maxRecDepth 1000000 in
theorem line_allow {T : Tab} (hf : Facts T) {lo : Nat} {w : World} {R M : Nat} {v : Value} {role : Nat → Role} {x : RSt} (h : RdAt lo w R M v role x) (hT : TabAt T w) (hlo : lo ≤ w.heap.size) (few : x.us.length ≤ 16) {s : ByteArray} (hs : s.size ≤ maxLen) (hz : Nat.ble (bytesL s).length 4000000000 = true) {w0 : List Int} {rest : List (List Int)} (hspl : splitI (bytesL s) 32 = w0 :: rest) (hk : (w0 == ([108, 105, 109, 105, 116] : List UInt8).map byteI) = false ∧ (w0 == ([117, 115, 101, 114] : List UInt8).map byteI) = false ∧ (w0 == ([97, 108, 108, 111, 119] : List UInt8).map byteI) = true ∧ True) {x' : RSt} {e' : Int} (hF : ruleP x true rest = some (x', e')) :
    Calls Tryz.prog 54 #[.pointer (some ⟨R, 0, none⟩), .string s] w fun e w' => RdPost lo R M x' e' e w w' := by
  have hsp := split_calls hf hT hs hz
  have HL : Aside (lo ≤ w.heap.size ∧ RdAt lo w R M v role x ∧ TabAt T w ∧ x.us.length ≤ 16) := ⟨hlo, h, hT, few⟩
  have HS : Aside (splitI (bytesL s) 32 = w0 :: rest) := hspl
  have HK : Aside ((w0 == ([108, 105, 109, 105, 116] : List UInt8).map byteI) = false ∧ (w0 == ([117, 115, 101, 114] : List UInt8).map byteI) = false ∧ (w0 == ([97, 108, 108, 111, 119] : List UInt8).map byteI) = true ∧ True) := hk
  clear hlo h hT few hz hspl hk
  have HF : Aside (ruleP x true rest = some (x', e')) := hF
  clear hF
  go_enter Tryz.func54, Tryz.ntmps54
  go_wp2_with (go_at_call 94; (refine hsp.mono ?_; rintro e w1 ⟨B, cap, ws, rfl, hwl, hB, hBl, hcap, hcell, hb1⟩; obtain ⟨s0, ts, rfl, hs0, hts⟩ := ws_cons (hwl.trans HS.out); have c10 : w1.cell? ⟨B, 0, none⟩ = some (.string s0) := (hcell 0 s0 rfl).1; have hcap : ts.length + 1 ≤ cap := hcap; have HW : Aside (RdAt lo w1 R M v role x ∧ TabAt T w1 ∧ lo ≤ w1.heap.size ∧ (∀ i t, ts[i]? = some t → ∃ ad, some (⟨B, 1, none⟩ : Addr) = some ad ∧ w1.cell? (ad.add i) = some (.string t) ∧ t.size ≤ maxLen) ∧ role B = .no ∧ ts.map bytesL = rest ∧ Below lo w w1) := ⟨HL.out.2.1.below hb1, HL.out.2.2.1.below hb1, Nat.le_trans HL.out.1 hb1.size, tail1 hcell, Classical.byContradiction (fun hr => absurd (HL.out.2.1.lt B hr).2 (by omega)), hts, hb1.mono HL.out.1⟩; have e0 : (s0.toList == [108, 105, 109, 105, 116]) = false := by { rw [ln_lit, hs0]; exact HK.out.1 }; have e1 : (s0.toList == [117, 115, 101, 114]) = false := by { rw [ln_lit, hs0]; exact HK.out.2.1 }; have e2 : (s0.toList == [97, 108, 108, 111, 119]) = true := by { rw [ln_lit, hs0]; exact HK.out.2.2.1 }; clear hcell hwl hts hs0 hb1))
  have hl : ruleP x true (ts.map bytesL) = some (x', e') := by rw [HW.out.2.2.2.2.2.1]; exact HF.out
  have hRz : RdAt lo w1.drew R M v role x := HW.out.1.keep (fun b _ => rfl) (Nat.le_refl _)
  have hTz : TabAt T w1.drew := fun p hp => HW.out.2.1 p hp
  by_cases hc1 : cap = 1
  · subst hc1
    have ht0 : ts.length = 0 := by omega
    have HR : Aside (Calls Tryz.prog 97 #[.pointer (some ⟨R, 0, none⟩), .bool true, .slice (some ⟨B, 0, none⟩) 0 0] w1.drew fun e w' => RdPost lo R M x' e' e w1.drew w') := rule_walk hf hRz hTz HW.out.2.2.1 HL.out.2.2.2 ht0 (tail0 ht0) hl
    clear hRz hTz hl
    go_region_with (go_at_call 97; (refine HR.out.mono ?_; rintro e w2 ⟨rfl, hb2, h2⟩; have H2 : Aside (_ ∧ _) := ⟨hb2, h2⟩; clear hb2 h2))
    all_goals
      go_wp2
      go_ret
      exact ⟨rfl, HW.out.2.2.2.2.2.2.trans ⟨H2.out.1.os, H2.out.1.tape, H2.out.1.output, H2.out.1.size, H2.out.1.block⟩, H2.out.2⟩
  · have ht1 : ∀ i t, ts[i]? = some t → ∃ ad, some (⟨B, 1, none⟩ : Addr) = some ad ∧ w1.drew.cell? (ad.add i) = some (.string t) ∧ t.size ≤ maxLen := HW.out.2.2.2.1
    have HR : Aside (Calls Tryz.prog 97 #[.pointer (some ⟨R, 0, none⟩), .bool true, .slice (some ⟨B, 1, none⟩) ts.length (cap - 1)] w1.drew fun e w' => RdPost lo R M x' e' e w1.drew w') := rule_walk hf hRz hTz HW.out.2.2.1 HL.out.2.2.2 rfl ht1 hl
    clear hRz hTz hl ht1
    go_region_with (go_at_call 97; (refine HR.out.mono ?_; rintro e w2 ⟨rfl, hb2, h2⟩; have H2 : Aside (_ ∧ _) := ⟨hb2, h2⟩; clear hb2 h2))
    all_goals
      go_wp2
      go_ret
      exact ⟨rfl, HW.out.2.2.2.2.2.2.trans ⟨H2.out.1.os, H2.out.1.tape, H2.out.1.output, H2.out.1.size, H2.out.1.block⟩, H2.out.2⟩
set_option maxHeartbeats 16000000 in
set_option maxRecDepth 1000000 in
theorem line_deny {T : Tab} (hf : Facts T) {lo : Nat} {w : World} {R M : Nat} {v : Value} {role : Nat → Role} {x : RSt} (h : RdAt lo w R M v role x) (hT : TabAt T w) (hlo : lo ≤ w.heap.size) (few : x.us.length ≤ 16) {s : ByteArray} (hs : s.size ≤ maxLen) (hz : Nat.ble (bytesL s).length 4000000000 = true) {w0 : List Int} {rest : List (List Int)} (hspl : splitI (bytesL s) 32 = w0 :: rest) (hk : (w0 == ([108, 105, 109, 105, 116] : List UInt8).map byteI) = false ∧ (w0 == ([117, 115, 101, 114] : List UInt8).map byteI) = false ∧ (w0 == ([97, 108, 108, 111, 119] : List UInt8).map byteI) = false ∧ (w0 == ([100, 101, 110, 121] : List UInt8).map byteI) = true) {x' : RSt} {e' : Int} (hF : ruleP x false rest = some (x', e')) :
    Calls Tryz.prog 54 #[.pointer (some ⟨R, 0, none⟩), .string s] w fun e w' => RdPost lo R M x' e' e w w' := by
  have hsp := split_calls hf hT hs hz
  have HL : Aside (lo ≤ w.heap.size ∧ RdAt lo w R M v role x ∧ TabAt T w ∧ x.us.length ≤ 16) := ⟨hlo, h, hT, few⟩
  have HS : Aside (splitI (bytesL s) 32 = w0 :: rest) := hspl
  have HK : Aside ((w0 == ([108, 105, 109, 105, 116] : List UInt8).map byteI) = false ∧ (w0 == ([117, 115, 101, 114] : List UInt8).map byteI) = false ∧ (w0 == ([97, 108, 108, 111, 119] : List UInt8).map byteI) = false ∧ (w0 == ([100, 101, 110, 121] : List UInt8).map byteI) = true) := hk
  clear hlo h hT few hz hspl hk
  have HF : Aside (ruleP x false rest = some (x', e')) := hF
  clear hF
  go_enter Tryz.func54, Tryz.ntmps54
  go_wp2_with (go_at_call 94; (refine hsp.mono ?_; rintro e w1 ⟨B, cap, ws, rfl, hwl, hB, hBl, hcap, hcell, hb1⟩; obtain ⟨s0, ts, rfl, hs0, hts⟩ := ws_cons (hwl.trans HS.out); have c10 : w1.cell? ⟨B, 0, none⟩ = some (.string s0) := (hcell 0 s0 rfl).1; have hcap : ts.length + 1 ≤ cap := hcap; have HW : Aside (RdAt lo w1 R M v role x ∧ TabAt T w1 ∧ lo ≤ w1.heap.size ∧ (∀ i t, ts[i]? = some t → ∃ ad, some (⟨B, 1, none⟩ : Addr) = some ad ∧ w1.cell? (ad.add i) = some (.string t) ∧ t.size ≤ maxLen) ∧ role B = .no ∧ ts.map bytesL = rest ∧ Below lo w w1) := ⟨HL.out.2.1.below hb1, HL.out.2.2.1.below hb1, Nat.le_trans HL.out.1 hb1.size, tail1 hcell, Classical.byContradiction (fun hr => absurd (HL.out.2.1.lt B hr).2 (by omega)), hts, hb1.mono HL.out.1⟩; have e0 : (s0.toList == [108, 105, 109, 105, 116]) = false := by { rw [ln_lit, hs0]; exact HK.out.1 }; have e1 : (s0.toList == [117, 115, 101, 114]) = false := by { rw [ln_lit, hs0]; exact HK.out.2.1 }; have e2 : (s0.toList == [97, 108, 108, 111, 119]) = false := by { rw [ln_lit, hs0]; exact HK.out.2.2.1 }; have e3 : (s0.toList == [100, 101, 110, 121]) = true := by { rw [ln_lit, hs0]; exact HK.out.2.2.2 }; clear hcell hwl hts hs0 hb1))
  have hl : ruleP x false (ts.map bytesL) = some (x', e') := by rw [HW.out.2.2.2.2.2.1]; exact HF.out
  have hRz : RdAt lo w1.drew R M v role x := HW.out.1.keep (fun b _ => rfl) (Nat.le_refl _)
  have hTz : TabAt T w1.drew := fun p hp => HW.out.2.1 p hp
  by_cases hc1 : cap = 1
  · subst hc1
    have ht0 : ts.length = 0 := by omega
    have HR : Aside (Calls Tryz.prog 97 #[.pointer (some ⟨R, 0, none⟩), .bool false, .slice (some ⟨B, 0, none⟩) 0 0] w1.drew fun e w' => RdPost lo R M x' e' e w1.drew w') := rule_walk hf hRz hTz HW.out.2.2.1 HL.out.2.2.2 ht0 (tail0 ht0) hl
    clear hRz hTz hl
    go_region_with (go_at_call 97; (refine HR.out.mono ?_; rintro e w2 ⟨rfl, hb2, h2⟩; have H2 : Aside (_ ∧ _) := ⟨hb2, h2⟩; clear hb2 h2))
    all_goals
      go_wp2
      go_ret
      exact ⟨rfl, HW.out.2.2.2.2.2.2.trans ⟨H2.out.1.os, H2.out.1.tape, H2.out.1.output, H2.out.1.size, H2.out.1.block⟩, H2.out.2⟩
  · have ht1 : ∀ i t, ts[i]? = some t → ∃ ad, some (⟨B, 1, none⟩ : Addr) = some ad ∧ w1.drew.cell? (ad.add i) = some (.string t) ∧ t.size ≤ maxLen := HW.out.2.2.2.1
    have HR : Aside (Calls Tryz.prog 97 #[.pointer (some ⟨R, 0, none⟩), .bool false, .slice (some ⟨B, 1, none⟩) ts.length (cap - 1)] w1.drew fun e w' => RdPost lo R M x' e' e w1.drew w') := rule_walk hf hRz hTz HW.out.2.2.1 HL.out.2.2.2 rfl ht1 hl
    clear hRz hTz hl ht1
    go_region_with (go_at_call 97; (refine HR.out.mono ?_; rintro e w2 ⟨rfl, hb2, h2⟩; have H2 : Aside (_ ∧ _) := ⟨hb2, h2⟩; clear hb2 h2))
    all_goals
      go_wp2
      go_ret
      exact ⟨rfl, HW.out.2.2.2.2.2.2.trans ⟨H2.out.1.os, H2.out.1.tape, H2.out.1.output, H2.out.1.size, H2.out.1.block⟩, H2.out.2⟩
end Go.Proofs.YtgfmfgombmpodaaGreatDoor
namespace Go.Proofs.YtgfmfgombmpodaaGreatDoor
open Go.RowKit Go.Lib Pv
set_option linter.unusedVariables false
theorem sizeC : sizeT Tryz.prog 51 = some 8 := by kernel_rfl
theorem agC : isAg Tryz.prog 51 = true := by kernel_rfl
theorem conf_ret {w : World} {R : Nat} {v0 v1 v2 v3 v4 v5 v6 v7 v : Value} {T : TypeId} {a : Act} {Z : Ending → World → Prop} (hd : a.defers = []) (h2 : a.tmps.getD 2 undef = .pointer (some ⟨R, 0, none⟩)) (h3 : a.tmps.getD 3 undef = v)
    (hR : w.heap[R]? = some (.cells #[v0, v1, v2, v3, v4, v5, v6, v7] T (0, 0)))
    (hZ : Z (.returned (.tuple #[.agg #[v0, v1, v2, v3, v4, v5, v6, v7], v])) w) : bodyPost Tryz.prog Tryz.f27 Z .ret a w := by
  have hl := run_loadVar_cells (P := Tryz.prog) (w := w) (t := 51) (ad := ⟨R, 0, none⟩) (us := [v0, v1, v2, v3, v4, v5, v6, v7]) sizeC rfl agC (fun j x hj => by
    show w.cell? ((⟨R, 0, none⟩ : Addr).add j) = _
    have e : (⟨R, 0, none⟩ : Addr).add j = ⟨R, j, none⟩ := by unfold Addr.add; simp; omega
    rw [e, Lib.cell_of_heap hR]
    rw [← hj]; simp)
  refine bodyPost_ret ?_ hd hZ
  rw [results_cell_tmp (p := 2) (u := 3) (ty := 51) rfl, h2, h3]
  simp [asAddr, hl]
theorem four (w : World) {W' : World} (o1 o2 o3 o4 : Obj) (h : (((w.alloc o1).alloc o2).alloc o3).alloc o4 = W') : Below w.heap.size w W' ∧ W'.heap[w.heap.size]? = some o1 := by
  have sz : ∀ (w : World) (o : Obj), (w.alloc o).heap.size = w.heap.size + 1 := fun w o => by simp
  rw [← h]
  refine ⟨((((Below.refl _ w).alloc (Nat.le_refl _) _).alloc (by rw [sz]; omega) _).alloc (by rw [sz, sz]; omega) _).alloc (by rw [sz, sz, sz]; omega) _, ?_⟩
  rw [Lib.alloc_old _ _ _ (by rw [sz, sz, sz]; omega), Lib.alloc_old _ _ _ (by rw [sz, sz]; omega), Lib.alloc_old _ _ _ (by rw [sz]; omega)]
  rw [show (w.alloc o1).heap = w.heap.push o1 from rfl]
  simp
def confW (w : World) : World := ((((w.alloc (Obj.cells #[Value.int IntKind.i64 0, Value.int IntKind.i64 0, Value.int IntKind.i64 0, Value.int IntKind.i64 0, Value.int IntKind.i64 0, Value.int IntKind.i64 0, Value.int IntKind.i64 0, Value.slice none 0 0] 51)).alloc (Obj.cells #[Value.int IntKind.i64 16, Value.int IntKind.i64 100, Value.int IntKind.i64 65535, Value.int IntKind.i64 1000, Value.int IntKind.i64 1000000, Value.int IntKind.i64 1000, Value.int IntKind.i64 16384, Value.slice none 0 0] 51)).alloc (Obj.map #[] 0)).alloc (Obj.cells #[Value.int IntKind.i64 16, Value.int IntKind.i64 100, Value.int IntKind.i64 65535, Value.int IntKind.i64 1000, Value.int IntKind.i64 1000000, Value.int IntKind.i64 1000, Value.int IntKind.i64 16384, Value.slice none 0 0, Value.map (some (w.heap.size + 1 + 1))] 110))
end Go.Proofs.YtgfmfgombmpodaaGreatDoor
namespace Go.Proofs.YtgfmfgombmpodaaGreatDoor
open Go.RowKit Pv
set_option linter.unusedVariables false
theorem line_walk {T : Tab} (hf : Facts T) {lo : Nat} {w : World} {R M : Nat} {v : Value} {role : Nat → Role} {x : RSt} (h : RdAt lo w R M v role x) (hT : TabAt T w) (hlo : lo ≤ w.heap.size) {s : ByteArray} (hs : s.size ≤ maxLen) {x' : RSt} {e' : Int} (hF : lineP x (bytesL s) = some (x', e')) :
    Calls Tryz.prog 54 #[.pointer (some ⟨R, 0, none⟩), .string s] w fun e w' => RdPost lo R M x' e' e w w' := by
  unfold lineP at hF
  cases hz : (Nat.ble (bytesL s).length 4000000000 && Nat.ble x.us.length 16) with
  | false => rw [hz] at hF; cases hF
  | true =>
  rw [hz, cond_true] at hF
  rw [Bool.and_eq_true] at hz
  have few := Nat.le_of_ble_eq_true hz.2
  cases hsp : splitI (bytesL s) 32 with
  | nil => exact absurd hsp (splitI_ne _ _)
  | cons w0 rest =>
  rw [hsp] at hF
  have hF : lineW x w0 rest = some (x', e') := hF
  unfold lineW at hF
  cases h1 : w0 == lbL with
  | true =>
    rw [h1] at hF
    obtain ⟨⟨y, b⟩, h2, h3⟩ := Option.map_eq_some_iff.1 hF
    obtain ⟨rfl, rfl⟩ := Prod.mk.inj h3
    exact line_lim hf h hT hlo few hs hz.1 hsp ⟨h1, trivial, trivial, trivial⟩ h2
  | false =>
  rw [h1, cond_false] at hF
  cases h2 : w0 == lbU with
  | true =>
    rw [h2] at hF
    exact line_user hf h hT hlo few hs hz.1 hsp ⟨h1, h2, trivial, trivial⟩ hF
  | false =>
  rw [h2, cond_false] at hF
  cases h3 : w0 == lbA with
  | true =>
    rw [h3] at hF
    exact line_allow hf h hT hlo few hs hz.1 hsp ⟨h1, h2, h3, trivial⟩ hF
  | false =>
  rw [h3, cond_false] at hF
  cases h4 : w0 == lbD with
  | true =>
    rw [h4] at hF
    exact line_deny hf h hT hlo few hs hz.1 hsp ⟨h1, h2, h3, h4⟩ hF
  | false =>
  rw [h4, cond_false] at hF
  injection hF with hF
  obtain ⟨rfl, rfl⟩ := Prod.mk.inj hF
  exact line_none hf h hT hlo few hs hz.1 hsp ⟨h1, h2, h3, h4⟩
def rst0 : RSt := ⟨16, 100, 65535, 1000, 1000000, 1000, 16384, [], []⟩
def skipL (s : List Int) : Bool := List.isEmpty s || (s.headD 0 == 35)
noncomputable def parseL : List (List Int) → RSt → Option (RSt × Int)
  | [], x => some (x, 0)
  | s :: r, x => cond (skipL s) (parseL r x) ((lineP x s).bind fun p => cond (decide (p.2 = 0)) (parseL r p.1) (some p))
theorem start_rd (w : World) : RdAt (w.heap.size + 1) (confW w) (w.heap.size + 1 + 1 + 1) (w.heap.size + 1 + 1) (.slice none 0 0) (fun b => if b = w.heap.size + 1 + 1 + 1 then .rdr else if b = w.heap.size + 1 + 1 then .map else .no) rst0 := by
  have sz : ∀ (w : World) (o : Obj), (w.alloc o).heap.size = w.heap.size + 1 := fun w o => by simp
  refine ⟨?_, if_pos rfl, ⟨#[], 0, ?_, fun e he => by simp at he, [], rfl, rfl⟩, ?_, ⟨[], World.ownsRow_nil _ _ _ _, fun b hb => (by cases hb), fun i u hu => (by simp [rst0] at hu)⟩, fun b hb => ?_, fun c hc => ?_⟩
  · unfold confW
    have := heap_alloc_new ((((w.alloc (Obj.cells #[Value.int IntKind.i64 0, Value.int IntKind.i64 0, Value.int IntKind.i64 0, Value.int IntKind.i64 0, Value.int IntKind.i64 0, Value.int IntKind.i64 0, Value.int IntKind.i64 0, Value.slice none 0 0] 51)).alloc (Obj.cells #[Value.int IntKind.i64 16, Value.int IntKind.i64 100, Value.int IntKind.i64 65535, Value.int IntKind.i64 1000, Value.int IntKind.i64 1000000, Value.int IntKind.i64 1000, Value.int IntKind.i64 16384, Value.slice none 0 0] 51)).alloc (Obj.map #[] 0))) (Obj.cells #[Value.int IntKind.i64 16, Value.int IntKind.i64 100, Value.int IntKind.i64 65535, Value.int IntKind.i64 1000, Value.int IntKind.i64 1000000, Value.int IntKind.i64 1000, Value.int IntKind.i64 16384, Value.slice none 0 0, Value.map (some (w.heap.size + 1 + 1))] 110)
    rw [sz, sz, sz] at this
    exact this
  · unfold confW
    rw [heap_alloc_old _ _ (by rw [sz, sz, sz]; omega)]
    have := heap_alloc_new ((w.alloc (Obj.cells #[Value.int IntKind.i64 0, Value.int IntKind.i64 0, Value.int IntKind.i64 0, Value.int IntKind.i64 0, Value.int IntKind.i64 0, Value.int IntKind.i64 0, Value.int IntKind.i64 0, Value.slice none 0 0] 51)).alloc (Obj.cells #[Value.int IntKind.i64 16, Value.int IntKind.i64 100, Value.int IntKind.i64 65535, Value.int IntKind.i64 1000, Value.int IntKind.i64 1000000, Value.int IntKind.i64 1000, Value.int IntKind.i64 16384, Value.slice none 0 0] 51)) (Obj.map #[] 0)
    rw [sz, sz] at this
    exact this
  · show (if w.heap.size + 1 + 1 = w.heap.size + 1 + 1 + 1 then Role.rdr else if w.heap.size + 1 + 1 = w.heap.size + 1 + 1 then .map else .no) = .map
    rw [if_neg (by omega), if_pos rfl]
  · have hs : (confW w).heap.size = w.heap.size + 1 + 1 + 1 + 1 := by
      unfold confW
      rw [sz, sz, sz, sz]
    rw [hs]
    by_cases h1 : b = w.heap.size + 1 + 1 + 1
    · omega
    · by_cases h2 : b = w.heap.size + 1 + 1
      · omega
      · exfalso
        apply hb
        show (if b = _ then Role.rdr else if b = _ then .map else .no) = .no
        rw [if_neg h1, if_neg h2]
  · simp [RSt.ints, rst0] at hc
    rcases hc with rfl | rfl | rfl | rfl | rfl | rfl | rfl <;> decide
theorem cells8 {w : World} {b : Nat} {v0 v1 v2 v3 v4 v5 v6 v7 : Value} {T : TypeId} (h : w.heap[b]? = some (.cells #[v0, v1, v2, v3, v4, v5, v6, v7] T (0, 0))) : w.cell? ⟨b, 0, none⟩ = some v0 ∧ w.cell? ⟨b, 1, none⟩ = some v1 ∧ w.cell? ⟨b, 2, none⟩ = some v2 ∧ w.cell? ⟨b, 3, none⟩ = some v3 ∧ w.cell? ⟨b, 4, none⟩ = some v4 ∧ w.cell? ⟨b, 5, none⟩ = some v5 ∧ w.cell? ⟨b, 6, none⟩ = some v6 ∧ w.cell? ⟨b, 7, none⟩ = some v7 ∧
    w.frozen? ⟨b, 0, none⟩ = false ∧ w.frozen? ⟨b, 1, none⟩ = false ∧ w.frozen? ⟨b, 2, none⟩ = false ∧ w.frozen? ⟨b, 3, none⟩ = false ∧ w.frozen? ⟨b, 4, none⟩ = false ∧ w.frozen? ⟨b, 5, none⟩ = false ∧ w.frozen? ⟨b, 6, none⟩ = false ∧ w.frozen? ⟨b, 7, none⟩ = false := by
  refine ⟨?_, ?_, ?_, ?_, ?_, ?_, ?_, ?_, ?_, ?_, ?_, ?_, ?_, ?_, ?_, ?_⟩ <;> first | (rw [cell_at h]; rfl) | simp [World.frozen?, h]
def ParPost (w : World) (xf : RSt) (ef : Int) (e : Ending) (w' : World) : Prop := Below w.heap.size w w' ∧ (ef ≠ 0 → e = .returned (.tuple #[.agg #[.int .i64 0, .int .i64 0, .int .i64 0, .int .i64 0, .int .i64 0, .int .i64 0, .int .i64 0, .slice none 0 0], .int .i64 ef])) ∧
  (ef = 0 → ∃ v role, e = .returned (.tuple #[.agg #[.int .i64 xf.c0, .int .i64 xf.c1, .int .i64 xf.c2, .int .i64 xf.c3, .int .i64 xf.c4, .int .i64 xf.c5, .int .i64 xf.c6, v], .int .i64 0]) ∧ RdAt (w.heap.size + 1) w' (w.heap.size + 1 + 1 + 1) (w.heap.size + 1 + 1) v role xf)
set_option maxHeartbeats 4000000 in
theorem set8 {w W : World} {b : Nat} {u0 u1 u2 u3 u4 u5 u6 u7 v0 v1 v2 v3 v4 v5 v6 v7 : Value} {T : TypeId} (h : w.heap[b]? = some (.cells #[u0, u1, u2, u3, u4, u5, u6, u7] T (0, 0))) (hW : ((((((((w.setCell ⟨b, 0, none⟩ v0).setCell ⟨b, 1, none⟩ v1).setCell ⟨b, 2, none⟩ v2).setCell ⟨b, 3, none⟩ v3).setCell ⟨b, 4, none⟩ v4).setCell ⟨b, 5, none⟩ v5).setCell ⟨b, 6, none⟩ v6).setCell ⟨b, 7, none⟩ v7) = W) :
    W.heap[b]? = some (.cells #[v0, v1, v2, v3, v4, v5, v6, v7] T (0, 0)) ∧ (∀ k, k ≠ b → W.heap[k]? = w.heap[k]?) ∧ W.heap.size = w.heap.size ∧ W.os = w.os ∧ W.tape = w.tape ∧ W.output = w.output := by
  have hsz : ∀ (w : World) (a : Addr) (u : Value), (w.setCell a u).heap.size = w.heap.size := fun w a u => by simp [World.setCell]
  have hos : ∀ (w : World) (a : Addr) (u : Value), (w.setCell a u).os = w.os ∧ (w.setCell a u).tape = w.tape ∧ (w.setCell a u).output = w.output := fun w a u => ⟨rfl, rfl, rfl⟩
  subst hW
  refine ⟨?_, fun k hk => ?_, by rw [hsz, hsz, hsz, hsz, hsz, hsz, hsz, hsz], by rw [(hos _ _ _).1, (hos _ _ _).1, (hos _ _ _).1, (hos _ _ _).1, (hos _ _ _).1, (hos _ _ _).1, (hos _ _ _).1, (hos _ _ _).1], by rw [(hos _ _ _).2.1, (hos _ _ _).2.1, (hos _ _ _).2.1, (hos _ _ _).2.1, (hos _ _ _).2.1, (hos _ _ _).2.1, (hos _ _ _).2.1, (hos _ _ _).2.1], by rw [(hos _ _ _).2.2, (hos _ _ _).2.2, (hos _ _ _).2.2, (hos _ _ _).2.2, (hos _ _ _).2.2, (hos _ _ _).2.2, (hos _ _ _).2.2, (hos _ _ _).2.2]⟩
  · rw [set_heap (set_heap (set_heap (set_heap (set_heap (set_heap (set_heap (set_heap h)))))))]
    rfl
  · rw [setCell_heap, if_neg hk, setCell_heap, if_neg hk, setCell_heap, if_neg hk, setCell_heap, if_neg hk, setCell_heap, if_neg hk, setCell_heap, if_neg hk, setCell_heap, if_neg hk, setCell_heap, if_neg hk]
theorem below_set {w wr W : World} (hb : Below w.heap.size w wr) (h1 : ∀ k, k ≠ w.heap.size → W.heap[k]? = wr.heap[k]?) (h2 : W.heap.size = wr.heap.size) (h3 : W.os = wr.os ∧ W.tape = wr.tape ∧ W.output = wr.output) : Below w.heap.size w W :=
  ⟨h3.1.trans hb.os, h3.2.1.trans hb.tape, h3.2.2.trans hb.output, by rw [h2]; exact hb.size, fun k hk => (h1 k (by omega)).trans (hb.block k hk)⟩
theorem rd_slice {lo : Nat} {w : World} {R M : Nat} {v : Value} {role : Nat → Role} {x : RSt} (h : RdAt lo w R M v role x) : ∃ a n c, v = .slice a n c := by
  obtain ⟨xs, u1, _⟩ := h.hU
  rcases u1.2 with ⟨rfl, _⟩ | ⟨g, cap, cur, rfl, _⟩
  · exact ⟨_, _, _, rfl⟩
  · exact ⟨_, _, _, rfl⟩
theorem par_cell {w w' : World} {a : Addr} {u : Value} (h : w.cell? a = some u) (hb : Below w.heap.size w w') : w'.cell? a = some u := (hb.cell (cell_lt h)).trans h
set_option maxHeartbeats 16000000 in
set_option maxRecDepth 1000000 in
theorem par_walk {T : Tab} (hf : Facts T) {w : World} (hT : TabAt T w) {a : Option Addr} {n c : Nat} {ls : List ByteArray} (hn : ls.length = n) (hsm : n ≤ 1000000) (hls : ∀ i s, ls[i]? = some s → ∃ ad, a = some ad ∧ w.cell? (ad.add i) = some (.string s) ∧ s.size ≤ maxLen) {xf : RSt} {ef : Int} (hF : parseL (ls.map bytesL) rst0 = some (xf, ef)) :
    Calls Tryz.prog 27 #[.slice a n c] w fun e w' => ParPost w xf ef e w' := by
  have hs0 := start_rd w
  have HL : Aside (TabAt T w ∧ ls.length = n ∧ (∀ i s, ls[i]? = some s → ∃ ad, a = some ad ∧ w.cell? (ad.add i) = some (.string s) ∧ s.size ≤ maxLen) ∧ parseL (ls.map bytesL) rst0 = some (xf, ef)) := ⟨hT, hn, hls, hF⟩
  have HS0 : Aside (RdAt (w.heap.size + 1) (confW w) (w.heap.size + 1 + 1 + 1) (w.heap.size + 1 + 1) (.slice none 0 0) (fun b => if b = w.heap.size + 1 + 1 + 1 then .rdr else if b = w.heap.size + 1 + 1 then .map else .no) rst0) := hs0
  clear hT hn hls hF hs0
  go_enter Tryz.func27, Tryz.ntmps27
  have hmm := @run_makeMap Tryz.prog
  go_wp2
  go_loopw [3, 14] (fun u vi wr => u = .int .i64 0 ∧ ∃ k : Nat, vi = .int .i64 k ∧ k ≤ n ∧ Aside (∃ x v role, RdAt (w.heap.size + 1) wr (w.heap.size + 1 + 1 + 1) (w.heap.size + 1 + 1) v role x ∧ parseL ((ls.drop k).map bytesL) x = some (xf, ef)) ∧ Aside (wr.heap[w.heap.size]? = some (Obj.cells #[Value.int IntKind.i64 0, Value.int IntKind.i64 0, Value.int IntKind.i64 0, Value.int IntKind.i64 0, Value.int IntKind.i64 0, Value.int IntKind.i64 0, Value.int IntKind.i64 0, Value.slice none 0 0] 51 (0, 0))) ∧ Below w.heap.size w wr) (fun _ vi _ => n - (intOf vi).toNat)
  case atStart =>
    refine ⟨rfl, 0, rfl, by omega, ⟨rst0, _, _, HS0.out, HL.out.2.2.2⟩, ?_, ?_⟩
    · exact (four w _ _ _ _ rfl).2
    · exact (four w _ _ _ _ rfl).1
  case round =>
    obtain ⟨rfl, k, rfl, hk, HX, HZ, hb⟩ := hrel
    have hwr : w.heap.size ≤ wr.heap.size := hb.size
    by_cases hlt : k < n
    · obtain ⟨x, v, role, hrd, hp⟩ := HX.out
      have hkl : k < ls.length := by rw [HL.out.2.1]; exact hlt
      obtain ⟨s, hsk⟩ : ∃ s, ls[k]? = some s := ⟨_, List.getElem?_eq_getElem hkl⟩
      obtain ⟨ad, rfl, hc0, hz⟩ := HL.out.2.2.1 k s hsk
      have hcr := par_cell hc0 hb
      rw [List.drop_eq_getElem_cons hkl, List.map_cons, show ls[k] = s from by rw [List.getElem?_eq_getElem hkl] at hsk; injection hsk] at hp
      have hp : cond (skipL (bytesL s)) (parseL ((ls.drop (k + 1)).map bytesL) x) ((lineP x (bytesL s)).bind fun p => cond (decide (p.2 = 0)) (parseL ((ls.drop (k + 1)).map bytesL) p.1) (some p)) = some (xf, ef) := hp
      clear HX hsk hc0
      have hne : ∀ h0 : 0 < s.size, bytesL s = (((s[0]'h0).toNat : Nat) : Int) :: (bytesL s).tail := fun h0 => by
        have h1 : s.data.toList.length = s.size := by simp
        have h2 : s.data.toList[0]? = some (s[0]'h0) := Lib.data_getElem? s 0 h0
        show s.data.toList.map byteI = _
        cases hq : s.data.toList with
        | nil => rw [hq] at h2; cases h2
        | cons y r =>
          rw [hq] at h2
          injection h2 with h2
          show byteI y :: r.map byteI = _
          rw [← h2]
          show _ = _ :: (s.data.toList.map byteI).tail
          rw [hq]
          rfl
      cases hsk : skipL (bytesL s) with
      | true =>
        rw [hsk, cond_true] at hp
        have HN : Aside (∃ x v role, RdAt (w.heap.size + 1) wr (w.heap.size + 1 + 1 + 1) (w.heap.size + 1 + 1) v role x ∧ parseL ((ls.drop (k + 1)).map bytesL) x = some (xf, ef)) := ⟨x, v, role, hrd, hp⟩
        clear hrd hp
        by_cases h0 : 0 < s.size
        · have hc : (((s[0]'h0).toNat : Nat) : Int) = 35 := by
            unfold skipL at hsk
            rw [hne h0] at hsk
            simpa using hsk
          have hnn : ¬ s.toList = [] := fun e => by
            have := (bytes_nil s).2 e
            rw [hne h0] at this
            cases this
          clear hsk hne
          go_wp2
          all_goals exact ⟨⟨by first | rfl | trivial, k + 1, by simp, by omega, HN, HZ, hb⟩, by simp [intOf]; omega⟩
        · have hnn : s.toList = [] := (bytes_nil s).1 (List.eq_nil_of_length_eq_zero (by rw [bytes_len]; omega))
          clear hsk hne
          go_wp2
          all_goals exact ⟨⟨by first | rfl | trivial, k + 1, by simp, by omega, HN, HZ, hb⟩, by simp [intOf]; omega⟩
      | false =>
        rw [hsk, cond_false] at hp
        obtain ⟨⟨x1, e1⟩, hl1, hp⟩ := Option.bind_eq_some_iff.1 hp
        have hnn : ¬ s.toList = [] := fun e => by
          have := (bytes_nil s).2 e
          rw [this] at hsk
          cases hsk
        have h0 : 0 < s.size := by
          rcases Nat.lt_or_ge 0 s.size with h | h
          · exact h
          · exact absurd ((bytes_nil s).1 (List.eq_nil_of_length_eq_zero (by rw [bytes_len]; omega))) hnn
        have hc : ¬ (((s[0]'h0).toNat : Nat) : Int) = 35 := fun e => by
          unfold skipL at hsk
          rw [hne h0, e] at hsk
          cases hsk
        have hTr : TabAt T wr := HL.out.1.below hb
        have hlw : w.heap.size + 1 ≤ wr.heap.size := (Array.getElem?_eq_some_iff.1 HZ.out).1
        have hlk := line_walk hf hrd hTr hlw hz hl1
        have hzb : ∀ w2, Below (w.heap.size + 1) wr w2 → w2.heap[w.heap.size]? = _ := fun w2 h => (h.block w.heap.size (by omega)).trans HZ.out
        have HN : Aside (_ ∧ _) := ⟨hp, hzb⟩
        clear hrd hp hsk hne hTr hlw hl1 hzb
        by_cases he : e1 = 0
        · subst he
          go_wp2_with (go_at_call 54; (refine hlk.mono ?_; rintro e w2 ⟨rfl, hb2, h2⟩; have H2 : Aside (_ ∧ _) := ⟨hb2, h2⟩; clear hb2 h2))
          all_goals first
            | (exfalso; rename_i hor; rcases hor with hor | hor; exact hnn (List.isEmpty_iff.1 hor); exact hc (by simpa using hor))
            | (obtain ⟨v', role', hrd'⟩ := H2.out.2 (by first | rfl | trivial)
               exact ⟨⟨by first | rfl | trivial, k + 1, by simp, by omega, ⟨x1, v', role', hrd', HN.out.1⟩, HN.out.2 _ H2.out.1, hb.trans (H2.out.1.mono (by omega))⟩, by simp [intOf]; omega⟩)
        · have hpe : some (x1, e1) = some (xf, ef) := by
            have := HN.out.1
            rw [decide_eq_false he] at this
            exact this
          injection hpe with hpe
          obtain ⟨rfl, rfl⟩ := Prod.mk.inj hpe
          go_wp2_with (go_at_call 54; (refine hlk.mono ?_; rintro e w2 ⟨rfl, hb2, h2⟩; obtain ⟨z0, z1, z2, z3, z4, z5, z6, z7, f0, f1, f2, f3, f4, f5, f6, f7⟩ := cells8 (HN.out.2 _ hb2); have H2 : Aside (_ ∧ _) := ⟨hb2, h2⟩; clear hb2 h2))
          all_goals first
            | (exfalso; rename_i hor; rcases hor with hor | hor; exact hnn (List.isEmpty_iff.1 hor); exact hc (by simpa using hor))
            | skip
          all_goals
            generalize hW : World.setCell _ _ _ = W8
            obtain ⟨y1, y2, y3, y4⟩ := set8 (HN.out.2 _ H2.out.1) hW
            exact conf_ret rfl rfl rfl y1 ⟨below_set (hb.trans (H2.out.1.mono (by omega))) y2 y3 y4, fun _ => rfl, fun h => absurd h he⟩
    · obtain rfl : k = n := by omega
      obtain ⟨x, v, role, hrd, hp⟩ := HX.out
      rw [List.drop_eq_nil_of_le (by rw [HL.out.2.1]; exact Nat.le_refl _)] at hp
      have hp : some (x, (0 : Int)) = some (xf, ef) := hp
      injection hp with hp
      obtain ⟨rfl, rfl⟩ := Prod.mk.inj hp
      obtain ⟨z0, z1, z2, z3, z4, z5, z6, z7, f0, f1, f2, f3, f4, f5, f6, f7⟩ := cells8 HZ.out
      obtain ⟨va, vn, vc, rfl⟩ := rd_slice hrd
      obtain ⟨q0, q1, q2, q3, q4, q5, q6, q7, q8, _⟩ := cells9 hrd.hR
      have HR : Aside (RdAt (w.heap.size + 1) wr (w.heap.size + 1 + 1 + 1) (w.heap.size + 1 + 1) (.slice va vn vc) role x) := hrd
      clear hrd
      go_wp2
      generalize hW : World.setCell _ _ _ = W8
      obtain ⟨y1, y2, y3, y4⟩ := set8 HZ.out hW
      refine conf_ret rfl rfl rfl y1 ⟨below_set hb y2 y3 y4, fun h => absurd rfl h, fun _ => ⟨_, role, rfl, HR.out.keep (fun b hr => y2 b (by have := (HR.out.lt b hr).1; omega)) (by rw [y3]; exact Nat.le_refl _)⟩⟩
theorem strs_any {P : Nat → ByteArray → Prop} : ∀ (l : List (List Int)), (∀ (i : Nat) (y : List Int), l[i]? = some y → ∃ t : ByteArray, P i t ∧ bytesL t = y) → ∃ ws : List ByteArray, ws.map bytesL = l ∧ ∀ (i : Nat) (t : ByteArray), ws[i]? = some t → P i t := by
  intro l h
  have key : ∀ k, k ≤ l.length → ∃ ws : List ByteArray, ws.map bytesL = l.take k ∧ ∀ (i : Nat) (t : ByteArray), ws[i]? = some t → P i t := by
    intro k
    induction k with
    | zero => exact fun _ => ⟨[], rfl, fun i t ht => by simp at ht⟩
    | succ k ih =>
      intro hk
      obtain ⟨ws, h1, h2⟩ := ih (by omega)
      have hget : l[k]? = some l[k] := List.getElem?_eq_getElem (by omega)
      obtain ⟨t, ht, ht2⟩ := h k _ hget
      have hl : ws.length = k := by
        have := congrArg List.length h1
        rw [List.length_map, List.length_take] at this
        omega
      refine ⟨ws ++ [t], ?_, fun i u hu => ?_⟩
      · rw [List.map_append, h1, List.take_add_one, hget, ← ht2]; rfl
      · rcases Nat.lt_or_ge i ws.length with hi | hi
        · rw [List.getElem?_append_left hi] at hu
          exact h2 i u hu
        · rw [List.getElem?_append_right hi] at hu
          have hi2 : i = k := by
            have := (List.getElem?_eq_some_iff.1 hu).1
            simp at this
            omega
          subst hi2
          rw [hl, Nat.sub_self] at hu
          injection hu with hu
          subst hu
          exact ht
  obtain ⟨ws, h1, h2⟩ := key l.length (Nat.le_refl _)
  exact ⟨ws, by rw [h1, List.take_length], h2⟩
theorem row_rep {lo : Nat} {w : World} {role : Nat → Role} {ro : Role} {E : TypeId} {e : Ty} {l : List e.D} {v : Value} {C : Com} (h : RowAt lo w role ro E e l v) (he : flatT e = true) (hC : ∀ b o, v.ownBlock = some b → o < List.length l * e.size → C b o) : RepD w C (.sl e) l [v] := by
  obtain ⟨xs, h1, h2, h3⟩ := h
  rcases h1.2 with ⟨rfl, hn⟩ | ⟨g, cap, cur, rfl, hb, hg, hlc, hcm, hcs, ht⟩
  · refine ⟨none, 0, 0, rfl, hn, Nat.le_refl _, by unfold maxLen; omega, fun i x hx => ?_⟩
    have hx : l[i]? = some x := hx
    have := (List.getElem?_eq_some_iff.1 hx).1
    omega
  · refine ⟨_, _, _, rfl, rfl, hlc, hcm, fun i x hx => ?_⟩
    have hx : l[i]? = some x := hx
    have hi := (List.getElem?_eq_some_iff.1 hx).1
    have hr := h3 i x hx
    refine ⟨⟨g, 0, none⟩, (xs.drop (i * e.size)).take e.size, rfl, RepD.len hr, fun j u hj => ?_, repD_flat he hr⟩
    have hjl : j < e.size := by
      have h4 := (List.getElem?_eq_some_iff.1 hj).1
      have h5 := RepD.len hr
      omega
    rw [List.getElem?_take, if_pos hjl, List.getElem?_drop] at hj
    refine ⟨h1.cells (g := g) rfl _ u hj, ?_⟩
    refine hC g _ rfl ?_
    have h6 : (i + 1) * e.size ≤ List.length l * e.size := Nat.mul_le_mul_right _ hi
    rw [Nat.add_mul, Nat.one_mul] at h6
    show 0 + (i * e.size + j) < _
    omega
theorem user_rep {lo : Nat} {w : World} {role : Nat → Role} {i : Nat} {u : UserD} {cs : List Value} {C : Com} (h : UserAt lo w role i u cs) (hC : ∀ b o, role b = .flat ∨ role b = .row i → C b o) : RepD w C userT u cs := by
  obtain ⟨nm, vs, vd, vr, rfl, h2, h3, h4, h5, h6, h7⟩ := h
  have k5 := row_rep (C := C) h5 rfl fun b o hb _ => hC b o (.inl (by obtain ⟨_, _, q, _⟩ := h5; exact q b hb))
  have k6 := row_rep (C := C) h6 rfl fun b o hb _ => hC b o (.inl (by obtain ⟨_, _, q, _⟩ := h6; exact q b hb))
  have k7 := row_rep (C := C) h7 rfl fun b o hb _ => hC b o (.inr (by obtain ⟨_, _, q, _⟩ := h7; exact q b hb))
  exact ⟨[_], _, rfl, ⟨nm, rfl, h2, h3⟩, [_, _], _, rfl, ⟨[_], [_], rfl, k5, k6⟩, [_], _, rfl, ⟨rfl, h4⟩, [_], _, rfl, rfl, k7⟩
def F_conf_Parse_sig : Sig := ⟨[.v false [.d (.sl .str)]], [(true, [.d (.int .i64), .d (.int .i64), .d (.int .i64), .d (.int .i64), .d (.int .i64), .d (.int .i64), .d (.int .i64), .own 63 (.pr .str (.pr (.pr (.sl (.int .u8)) (.sl (.int .u8))) (.pr (.int .i64) (.pr (.cpx .f64) (.sl (.pr .bool (.pr (.int .i64) (.pr .str (.pr (.pr .str (.int .i64)) (.pr (.int .i64) (.int .i64)))))))))))]), (false, [.d (.int .i64)])]⟩
abbrev ConfR := Int × Int × Int × Int × Int × Int × Int × List UserD × Int
noncomputable def F_conf_Parse (l : List (List Int)) : Option ConfR := cond (Nat.ble l.length 1000000) ((parseL l rst0).bind fun p => cond (decide (p.2 = 0)) (some (p.1.c0, p.1.c1, p.1.c2, p.1.c3, p.1.c4, p.1.c5, p.1.c6, p.1.us, 0)) (cond (decide (0 < p.2) && decide (p.2 < 10)) (some (0, 0, 0, 0, 0, 0, 0, [], p.2)) none)) none
theorem F_conf_Parse_sound {T : Tab} (h_maxlen : has_maxlen T) (h_pow10 : tab_pow10 ∈ T) (h_errs : has_errs T) : SoundFn Tryz.prog T 27 F_conf_Parse_sig ⟨F_conf_Parse⟩ := by
  refine sound_of rfl fun F g O xs ls y tmf w args hT hw hlim hls happ hsz hr => ?_
  obtain ⟨(l : List (List Int)), xs', rfl, h2⟩ := appF_inv_c (ts := []) happ
  obtain ⟨rfl, h3⟩ := appF_inv_n h2
  have hls' : some [Leaf.d (.sl .str) l] = some ls := hls
  injection hls' with hls'
  subst hls'
  obtain ⟨a, n, c, e0, e1, e2, e3, e4⟩ := rel_leaf.1 (hr 0)
  have e0 : args.getD 0 undef = .slice a n c := by injection e0
  rw [args_1 hsz, e0]
  have h3 : F_conf_Parse l = some y := h3
  unfold F_conf_Parse at h3
  cases hb : Nat.ble l.length 1000000 with
  | false => rw [hb] at h3; cases h3
  | true =>
    rw [hb, cond_true] at h3
    obtain ⟨⟨xf, ef⟩, hp, h3⟩ := Option.bind_eq_some_iff.1 h3
    have hble := Nat.le_of_ble_eq_true hb
    have e1 : l.length = n := e1
    obtain ⟨bs, hbs, hbc⟩ := strs_any (P := fun i t => ∃ ad, a = some ad ∧ w.cell? (ad.add i) = some (.string t) ∧ t.size ≤ maxLen) l fun i s hs => by
      obtain ⟨ad, us, q1, q2, q3, t, q4, q5, q6⟩ := e4 i s hs
      refine ⟨t, ⟨ad, q1, ?_, q6⟩, q5⟩
      have := (q3 0 (.string t) (by rw [q4]; rfl)).1
      rw [show (Ty.str).size = 1 from rfl, Nat.mul_one, Nat.add_zero] at this
      exact this
    have hbl : bs.length = n := by rw [← e1, ← hbs, List.length_map]
    refine (par_walk ⟨h_pow10, h_errs, h_maxlen⟩ hT hbl (by omega) hbc (by rw [hbs]; exact hp)).mono ?_
    rintro e w' ⟨hbel, hno, hyes⟩
    by_cases he : ef = 0
    · subst he
      obtain ⟨v, role, rfl, hrd⟩ := hyes rfl
      have hy : ((xf.c0, xf.c1, xf.c2, xf.c3, xf.c4, xf.c5, xf.c6, xf.us, 0) : ConfR) = y := by
        have h3 : some _ = some y := h3
        injection h3
      subst hy
      obtain ⟨xs, u1, u2, u3⟩ := hrd.hU
      have hwfs := hrd.wf
      have ti : ∀ {C : Com} {bk : Tok → Option Nat} {x : Int}, (Lit.int .i64 x).wf = true → RepL F ⟨C, bk, g.ρ, fun _ _ => []⟩ w' (exitO F_conf_Parse_sig) (.d (.int .i64) x) [.int .i64 x] := fun h => ⟨rfl, h⟩
      have h70 : ∀ {k : Tok} {v0 : Option Nat} {b : Nat}, (match tokEq k (.hd 0 7) with | true => v0 | false => none) = some b → k = .hd 0 7 ∧ v0 = some b := fun {k v0 b} hk => by
        cases hq : tokEq k (.hd 0 7) with
        | false => rw [hq] at hk; cases hk
        | true =>
          rw [hq] at hk
          refine ⟨?_, hk⟩
          cases k with
          | hd d j =>
            have : (Nat.beq d 0 && Nat.beq j 7) = true := hq
            simp only [Bool.and_eq_true] at this
            rw [Nat.eq_of_beq_eq_true this.1, Nat.eq_of_beq_eq_true this.2]
          | zero => cases hq
          | op _ _ => cases hq
      have fin : ∀ (C' : Com) (bk : Option Nat), (∀ b o, b < w.heap.size → (C' b o ↔ g.C b o)) → (∀ b o, C' b o → b < w'.heap.size) → (∀ b, bk = some b → w.heap.size ≤ b ∧ b < w'.heap.size) → RepL F ⟨C', fun k => match tokEq k (.hd 0 7) with | true => bk | false => none, g.ρ, fun _ _ => []⟩ w' (exitO F_conf_Parse_sig) (.own (.hd 0 7) 63 userT xf.us) [v] →
          ∃ us os C' blk', Ending.returned (.tuple #[.agg #[.int .i64 xf.c0, .int .i64 xf.c1, .int .i64 xf.c2, .int .i64 xf.c3, .int .i64 xf.c4, .int .i64 xf.c5, .int .i64 xf.c6, v], .int .i64 0]) = .returned (retV us) ∧ us.length = F_conf_Parse_sig.rs.length ∧ mkLs (Tok.hd 0) F_conf_Parse_sig.outs 0 (unpackD (F_conf_Parse_sig.outs.map LT.ty) ((xf.c0, xf.c1, xf.c2, xf.c3, xf.c4, xf.c5, xf.c6, xf.us, 0) : ConfR)) = some os ∧ Below w.heap.size w w' ∧
            (∀ b o, b < w.heap.size → (C' b o ↔ g.C b o)) ∧ (∀ b o, C' b o → b < w'.heap.size) ∧ blk' .zero = none ∧ (∀ k b, blk' k = some b → w.heap.size ≤ b ∧ b < w'.heap.size) ∧ (∀ k k' b, blk' k = some b → blk' k' = some b → k = k') ∧
            ∀ i, i < F_conf_Parse_sig.rs.length → RelP F ⟨C', blk', g.ρ, fun _ _ => []⟩ w' (exitO F_conf_Parse_sig) tmf (us.getD i undef) (resAt F_conf_Parse_sig.rs os i) := fun C' bk h1 h2 h3 h4 => by
        refine ⟨[.agg #[.int .i64 xf.c0, .int .i64 xf.c1, .int .i64 xf.c2, .int .i64 xf.c3, .int .i64 xf.c4, .int .i64 xf.c5, .int .i64 xf.c6, v], .int .i64 0], _, C', fun k => match tokEq k (.hd 0 7) with | true => bk | false => none, rfl, rfl, rfl, hbel, h1, h2, rfl, fun k b hk => h3 b (h70 hk).2, fun k k' b hk hk' => (h70 hk).1.trans (h70 hk').1.symm, fun i hi => ?_⟩
        match i, hi with
        | 0, _ =>
          refine ⟨[.int .i64 xf.c0, .int .i64 xf.c1, .int .i64 xf.c2, .int .i64 xf.c3, .int .i64 xf.c4, .int .i64 xf.c5, .int .i64 xf.c6, v], ?_, rfl⟩
          have k0 : (Lit.int .i64 xf.c0).wf = true := hwfs _ (by simp [RSt.ints])
          have k1 : (Lit.int .i64 xf.c1).wf = true := hwfs _ (by simp [RSt.ints])
          have k2 : (Lit.int .i64 xf.c2).wf = true := hwfs _ (by simp [RSt.ints])
          have k3 : (Lit.int .i64 xf.c3).wf = true := hwfs _ (by simp [RSt.ints])
          have k4 : (Lit.int .i64 xf.c4).wf = true := hwfs _ (by simp [RSt.ints])
          have k5 : (Lit.int .i64 xf.c5).wf = true := hwfs _ (by simp [RSt.ints])
          have k6 : (Lit.int .i64 xf.c6).wf = true := hwfs _ (by simp [RSt.ints])
          exact ⟨[_], _, rfl, ti k0, [_], _, rfl, ti k1, [_], _, rfl, ti k2, [_], _, rfl, ti k3, [_], _, rfl, ti k4, [_], _, rfl, ti k5, [_], _, rfl, ti k6, [_], [], rfl, h4, rfl⟩
        | 1, _ => exact rel_leaf.2 ⟨rfl, rfl⟩
        | i + 2, hi => exact absurd hi (by show ¬ i + 2 < 2; omega)
      rcases u1.2 with ⟨rfl, hn0⟩ | ⟨U, cap, cur, rfl, hUlo, hcell, hlc, hcm, hcs, htake⟩
      · have hnil : xf.us = [] := List.eq_nil_of_length_eq_zero hn0
        refine fin g.C none (fun _ _ _ => Iff.rfl) (fun b o h => Nat.lt_of_lt_of_le (hlim b o h) hbel.size) (fun b h => (by cases h)) ?_
        rw [hnil]
        exact ⟨⟨none, 0, 0, rfl, rfl, Nat.le_refl _, by unfold maxLen; omega, fun i x hx => by
          have hx : List.nil[i]? = some x := hx
          simp at hx⟩, fun _ => ⟨_, rfl, .inl ⟨none, rfl, rfl, rfl⟩⟩⟩
      · have hUs : U < w'.heap.size := (Array.getElem?_eq_some_iff.1 hcell).1
        have hroU := u2 U rfl
        have hel : ∀ (i : Nat) (x : UserD), xf.us[i]? = some x → RepD w' (fun b o => g.C b o ∨ (w.heap.size ≤ b ∧ b < w'.heap.size ∧ (b = U → o < xf.us.length * 6))) userT x ((cur.toList.drop (i * 6)).take 6) := fun i x hx => by
          have h1 := user_rep (C := fun b o => g.C b o ∨ (w.heap.size ≤ b ∧ b < w'.heap.size ∧ (b = U → o < xf.us.length * 6))) (u3 i x hx) fun b o hb => .inr (by
            have hne : role b ≠ .no := by rcases hb with hb | hb <;> (rw [hb]; intro e; cases e)
            have h2 := hrd.lt b hne
            refine ⟨by omega, h2.2, fun e => ?_⟩
            rw [e, hroU] at hb
            rcases hb with hb | hb <;> cases hb)
          rw [← htake, take_row (List.getElem?_eq_some_iff.1 hx).1] at h1
          exact h1
        refine fin (fun b o => g.C b o ∨ (w.heap.size ≤ b ∧ b < w'.heap.size ∧ (b = U → o < xf.us.length * 6))) (some U) (fun b o hb => ⟨fun h => h.elim id fun h => absurd h.1 (by omega), .inl⟩) (fun b o h => h.elim (fun h => Nat.lt_of_lt_of_le (hlim b o h) hbel.size) fun h => h.2.1) (fun b h => by injection h with h; rw [← h]; exact ⟨by omega, hUs⟩) ⟨⟨_, _, _, rfl, rfl, hlc, hcm, fun i x hx => ?_⟩, fun _ => ⟨_, rfl, .inr ⟨U, cap, cur, rfl, rfl, hcell, hlc, hcm, hcs, hel, fun o => ?_, fun o _ => .inl (by rw [hw]; omega)⟩⟩⟩
        · have hx : xf.us[i]? = some x := hx
          have hr := hel i x hx
          have hi := (List.getElem?_eq_some_iff.1 hx).1
          refine ⟨_, _, rfl, RepD.len hr, fun j u hj => ?_, hr⟩
          have hjl : j < 6 := by
            have h4 := (List.getElem?_eq_some_iff.1 hj).1
            have h5 : _ = 6 := RepD.len hr
            omega
          rw [List.getElem?_take, if_pos hjl, List.getElem?_drop] at hj
          rw [add_at]
          refine ⟨?_, .inr ⟨by show w.heap.size ≤ U; omega, hUs, fun _ => ?_⟩⟩
          · rw [cell_at hcell, ← Array.getElem?_toList, Nat.zero_add]; exact hj
          · show 0 + (i * 6 + j) < _
            omega
        · show (g.C U o ∨ (w.heap.size ≤ U ∧ U < w'.heap.size ∧ (U = U → o < xf.us.length * 6))) ↔ o < xf.us.length * 6
          constructor
          · rintro (h | h)
            · have := hlim _ _ h
              omega
            · exact h.2.2 rfl
          · intro h
            exact .inr ⟨by omega, hUs, fun _ => h⟩
    · rw [hno he]
      have h3 : cond (decide (ef = 0)) (some ((xf.c0, xf.c1, xf.c2, xf.c3, xf.c4, xf.c5, xf.c6, xf.us, 0) : ConfR)) (cond (decide (0 < ef) && decide (ef < 10)) (some ((0, 0, 0, 0, 0, 0, 0, [], ef) : ConfR)) none) = some y := h3
      rw [decide_eq_false he, cond_false] at h3
      cases hlt : (decide (0 < ef) && decide (ef < 10)) with
      | false => rw [hlt] at h3; cases h3
      | true =>
      rw [hlt] at h3
      have hy : ((0, 0, 0, 0, 0, 0, 0, [], ef) : ConfR) = y := by
        have h3 : some _ = some y := h3
        injection h3
      subst hy
      rw [Bool.and_eq_true, decide_eq_true_eq, decide_eq_true_eq] at hlt
      refine ⟨[.agg #[.int .i64 0, .int .i64 0, .int .i64 0, .int .i64 0, .int .i64 0, .int .i64 0, .int .i64 0, .slice none 0 0], .int .i64 ef], _, g.C, fun _ => none, rfl, rfl, rfl, hbel, fun _ _ _ => Iff.rfl, fun b o h => Nat.lt_of_lt_of_le (hlim b o h) hbel.size, rfl, fun k b h => (by cases h), fun k k' b h => (by cases h), fun i hi => ?_⟩
      match i, hi with
      | 0, _ =>
        have ti : ∀ {x : Int}, (Lit.int .i64 x).wf = true → RepL F ⟨g.C, fun _ => none, g.ρ, fun _ _ => []⟩ w' (exitO F_conf_Parse_sig) (.d (.int .i64) x) [.int .i64 x] := fun h => ⟨rfl, h⟩
        refine ⟨[.int .i64 0, .int .i64 0, .int .i64 0, .int .i64 0, .int .i64 0, .int .i64 0, .int .i64 0, .slice none 0 0], ?_, rfl⟩
        refine ⟨[_], _, rfl, ti rfl, [_], _, rfl, ti rfl, [_], _, rfl, ti rfl, [_], _, rfl, ti rfl, [_], _, rfl, ti rfl, [_], _, rfl, ti rfl, [_], _, rfl, ti rfl, [_], [], rfl, ?_, rfl⟩
        exact ⟨⟨none, 0, 0, rfl, rfl, Nat.le_refl _, by unfold maxLen; omega, fun i x hx => by
          have hx : List.nil[i]? = some x := hx
          simp at hx⟩, fun _ => ⟨_, rfl, .inl ⟨none, rfl, rfl, rfl⟩⟩⟩
      | 1, _ =>
        have kw : (Lit.int .i64 ef).wf = true := wf_of (by omega)
        exact rel_leaf.2 ⟨rfl, kw⟩
      | i + 2, hi => exact absurd hi (by show ¬ i + 2 < 2; omega)
end Go.Proofs.YtgfmfgombmpodaaGreatDoor
namespace Go.Proofs
open Go.Shelf Go.RowKit Go.Lib
def Tryz.lays212_ren : Go.Shelf.Ren := ⟨fun | 212 => 190 | 263 => 215 | 264 => 213 | n => n, fun | 46 => 105 | 51 => 212 | 146 => 276 | 53 => 218 | 148 => 273 | n => n, fun | n => n⟩
theorem Tryz.lays212 : Go.Proofs.Lays.n212 Tryz.prog Tryz.lays212_ren := {
  mixed := by kernel_rfl
  f212 := Tryz.func190.trans (congrArg some (by kernel_rfl))
  f263 := Tryz.func215.trans (congrArg some (by kernel_rfl))
  f264 := Tryz.func213.trans (congrArg some (by kernel_rfl))
  t46 := Tryz.underlying105
  a46 := Tryz.isAgg105
  z46 := Tryz.sizeOf105
  v46 := Tryz.zeroValue105
  t51 := Tryz.underlying212
  a51 := Tryz.isAgg212
  z51 := Tryz.sizeOf212
  v51 := Tryz.zeroValue212
  t53 := Tryz.underlying218
  a53 := Tryz.isAgg218
  z53 := Tryz.sizeOf218
  v53 := Tryz.zeroValue218
  t146 := Tryz.underlying276
  a146 := Tryz.isAgg276
  z146 := Tryz.sizeOf276
  v146 := Tryz.zeroValue276
  t148 := Tryz.underlying273
  a148 := Tryz.isAgg273
  z148 := Tryz.sizeOf273
  v148 := Tryz.zeroValue273 }
theorem Tryz.bits_Mul (x y : Nat) (hx : x < 18446744073709551616) (hy : y < 18446744073709551616) (w : World) :
    Calls Tryz.prog 190 #[.int .u64 x, .int .u64 y] w fun e w' => e = .returned (.tuple #[.int .u64 ((x * y / 18446744073709551616 : Nat) : Int), .int .u64 ((x * y % 18446744073709551616 : Nat) : Int)]) ∧ w' = w := Any.bits_Mul Tryz.lays212 x y hx hy w
end Go.Proofs
namespace Go.Proofs.YtgfmfgombmpodaaGreatDoor
open Go.RowKit Go.Lib Pv
set_option linter.unusedVariables false
def zrep (x : Int) (n m : Nat) : List Value := List.replicate m (.int .u8 x) ++ List.replicate (n - m) (.int .u8 0)
theorem zrep_len {x : Int} {n m : Nat} (h : m ≤ n) : (zrep x n m).length = n := by
  unfold zrep
  rw [List.length_append, List.length_replicate, List.length_replicate]
  omega
theorem zrep_splice {x : Int} {n m k : Nat} (h : m + k ≤ n) : splice (zrep x n m) m (List.replicate k (.int .u8 x)) = zrep x n (m + k) := by
  unfold splice zrep
  have e1 : (List.replicate m (Value.int .u8 x) ++ List.replicate (n - m) (Value.int .u8 0)).take m = List.replicate m (Value.int .u8 x) := by
    rw [List.take_append_of_le_length (by simp)]; simp
  have e2 : (List.replicate m (Value.int .u8 x) ++ List.replicate (n - m) (Value.int .u8 0)).drop (m + (List.replicate k (Value.int .u8 x)).length) = List.replicate (n - (m + k)) (Value.int .u8 0) := by
    rw [List.length_replicate, List.drop_append, List.drop_eq_nil_of_le (by simp), List.length_replicate, List.drop_replicate, List.nil_append]
    congr 1; omega
  rw [e1, e2, ← List.append_assoc, List.replicate_append_replicate]
theorem zrep_get {x : Int} {n m j : Nat} (h : j < m) (hm : m ≤ n) : (zrep x n m).toArray[j]? = some (.int .u8 x) := by
  unfold zrep
  rw [List.getElem?_toArray, List.getElem?_append_left (by simpa using h), List.getElem?_replicate, if_pos h]
set_option maxHeartbeats 8000000 in
set_option maxRecDepth 1000000 in
theorem rep_walk (ad : Addr) (cap : Nat) (x : Int) (n : Nat) (hn : n ≤ 100000) (w : World) (hcap : 1 ≤ cap) (hcell : w.cell? ad = some (.int .u8 x)) :
    Calls Tryz.prog 154 #[.slice (some ad) 1 cap, .int .i64 (n : Int)] w fun e w' => ∃ b, e = .returned (.slice (some ⟨b, 0, none⟩) n n) ∧ w.heap.size ≤ b ∧ w'.heap[b]? = some (.cells (zrep x n n).toArray 5 (0, 0)) ∧ Below w.heap.size w w' := by
  obtain ⟨i0, hi, hz0, hz1, hz2⟩ := info_parts infoU
  have hmul : ∀ w : World, Calls Tryz.prog 190 #[.int .u64 1, .int .u64 (n : Int)] w fun e w' => e = .returned (.tuple #[.int .u64 0, .int .u64 (n : Int)]) ∧ w' = w := fun w => by
    have h := Tryz.bits_Mul 1 n (by omega) (by omega) w
    rw [Nat.one_mul, Nat.div_eq_of_lt (by omega), Nat.mod_eq_of_lt (by omega)] at h
    exact h
  have hmade : madeCells (Value.int .u8 0).cells (n * i0.size) = (zrep x n 0).toArray := by
    rw [hz1, Nat.mul_one]
    apply Array.ext
    · simp [madeCells, zrep]
    · intro i h1 h2
      simp [madeCells, zrep, Value.cells, Nat.mod_one]
  have hmk : (Instr.makeSlice 32 (.int .i64 (n : Int)) (.int .i64 (n : Int))).run Tryz.prog w = .ok (.slice (some ⟨w.heap.size, 0, none⟩) n n) (w.alloc (.cells (zrep x n 0).toArray 5)) := by
    have h := run_make (P := Tryz.prog) w 32 5 i0 _ Tryz.underlying32 hi hz0 .i64 .i64 (n : Int) (n : Int) (by omega) (Int.le_refl _) (by rw [hz2]; omega) (by omega)
    rw [Int.toNat_natCast, hmade] at h
    exact h
  have hu64 : IntKind.u64.wrap (n : Int) = (n : Int) := IntWalk.u64_in _ ⟨by omega, by omega⟩
  have hi64 : IntKind.i64.wrap (n : Int) = (n : Int) := IntWalk.i64_in _ ⟨by omega, by omega⟩
  have hnn : ¬ (n : Int) < 0 := by omega
  have hnb : ¬ (n : Int) > 9223372036854775807 := by omega
  have hsrc : ∀ (j : Nat) v, (List.replicate (Nat.min 1 n) (Value.int .u8 x))[j]? = some v → (w.alloc (.cells (zrep x n 0).toArray 5)).cell? (ad.add j) = some v := fun j v hj => by
    rw [List.getElem?_replicate] at hj
    split at hj
    · rename_i h
      injection hj with hj
      subst hj
      have : Nat.min 1 n ≤ 1 := Nat.min_le_left _ _
      obtain rfl : j = 0 := by omega
      exact Lib.cell?_alloc_some _ hcell
    · cases hj
  go_enter Tryz.func154, Tryz.ntmps154
  have hlen1 : (List.replicate (Nat.min 1 n) (Value.int .u8 x)).length = Nat.min 1 n := List.length_replicate
  have hone : ∀ (k : Nat), ∀ v ∈ List.replicate k (Value.int .u8 x), v.oneCell' = true := fun k v hv => by rw [(List.mem_replicate.1 hv).2]; rfl
  have hbel0 : Below w.heap.size w (w.alloc (.cells (zrep x n 0).toArray 5)) := (Below.refl _ _).alloc (Nat.le_refl _) _
  have hal : (w.alloc (.cells (zrep x n 0).toArray 5)).heap[w.heap.size]? = some (.cells (zrep x n 0).toArray 5 (0, 0)) := heap_alloc_new w _
  have hmin : Nat.min 1 n ≤ n := Nat.min_le_right _ _
  have hmin0 : Nat.min 1 n = 0 → n = 0 := fun h => by
    have : Nat.min 1 n = min 1 n := rfl
    omega
  obtain ⟨w2, hcp, hg2', hb2⟩ : ∃ w2, (Builtin.copy_ #[32, 32] 3 #[.slice (some ⟨w.heap.size, 0, none⟩) n n, .slice (some ad) 1 cap]).run Tryz.prog (w.alloc (.cells (zrep x n 0).toArray 5)) = .ok (.int .i64 ((Nat.min 1 n : Nat) : Int)) w2 ∧
      w2.heap[w.heap.size]? = some (.cells (zrep x n (Nat.min 1 n)).toArray 5 (0, 0)) ∧ Below w.heap.size w w2 := by
    by_cases h0 : n = 0
    · subst h0
      exact ⟨_, run_copy_none (P := Tryz.prog) (w.alloc (.cells (zrep x 0 0).toArray 5)) 32 32 3 5 (some ⟨w.heap.size, 0, none⟩) (some ad) 0 0 1 cap Tryz.underlying32 (by kernel_rfl) rfl, heap_alloc_new w _, hbel0⟩
    · have h1 : Nat.min 1 n = 1 := by
        have : Nat.min 1 n = min 1 n := rfl
        omega
      rw [h1] at hlen1 hsrc ⊢
      have hrun := run_copy_row (P := Tryz.prog) (w.alloc (.cells (zrep x n 0).toArray 5)) 32 32 3 5 w.heap.size 0 n n ad 1 cap (zrep x n 0).toArray 5 (List.replicate 1 (Value.int .u8 x)) Tryz.underlying32 (by kernel_rfl) hal (by rw [hlen1, h1]) hsrc (by rw [hlen1, List.size_toArray, zrep_len (Nat.zero_le _)]; omega) (hone _)
      refine ⟨_, hrun, (setRow_heap _ _ _ _ _ _ hal).trans ?_, ?_⟩
      · have h3 := zrep_splice (x := x) (n := n) (m := 0) (k := 1) (by omega)
        unfold splice at h3
        rw [List.append_assoc, List.toList_toArray, h3]
      · exact below_setRow hbel0 (Nat.le_refl _) _
  go_wp2_with (first | (go_at_call 190; (with_reducible refine (hmul _).mono ?_); rintro e w1 ⟨rfl, hw1⟩; rw [hw1]) | (simp only []) | (simp only [hcp]))
  go_loopw [8] (fun v wr => ∃ m : Nat, v = .int .i64 m ∧ m ≤ n ∧ (m = 0 → n = 0) ∧ wr.heap[w.heap.size]? = some (.cells (zrep x n m).toArray 5 (0, 0)) ∧ Below w.heap.size w wr) (fun v _ => n - (RowKit.intOf v).toNat)
  case atStart => exact ⟨Nat.min 1 n, rfl, hmin, hmin0, hg2', hb2⟩
  case round =>
    obtain ⟨m, rfl, hm, hm0, hg, hb⟩ := hrel
    by_cases hlt : m < n
    · have hk : ∃ k, Nat.min m (n - m) = k ∧ 0 < k ∧ m + k ≤ n ∧ k ≤ m := ⟨_, rfl, by have : Nat.min m (n - m) = min m (n - m) := rfl; omega, by have : Nat.min m (n - m) = min m (n - m) := rfl; omega, Nat.min_le_left _ _⟩
      obtain ⟨k, hk1, hk2, hk3, hk4⟩ := hk
      have hsz : w.heap.size < wr.heap.size := (Array.getElem?_eq_some_iff.1 hg).1
      have hsrc2 : ∀ (j : Nat) v, (List.replicate k (Value.int .u8 x))[j]? = some v → wr.drew.cell? ((⟨w.heap.size, 0, none⟩ : Addr).add j) = some v := fun j v hj => by
        rw [List.getElem?_replicate] at hj
        split at hj
        · rename_i h
          injection hj with hj
          subst hj
          rw [add_at, Nat.zero_add]
          have : wr.drew.cell? ⟨w.heap.size, j, none⟩ = wr.cell? ⟨w.heap.size, j, none⟩ := rfl
          rw [this, cell_at hg]
          exact zrep_get (by omega) hm
        · cases hj
      have hmn : ¬ m = 0 := by omega
      have hnm : ¬ n = m := by omega
      have hwk : IntKind.i64.wrap ((m : Int) + (k : Int)) = ((m + k : Nat) : Int) := (IntWalk.i64_in _ ⟨by omega, by omega⟩).trans (by omega)
      have hmn' : (m : Int) ≤ (n : Int) := by omega
      have hm0' : ¬ (m : Int) = 0 := by omega
      clear hsrc hsz
      go_wp2
      go_region_law (refine step_copy_splice rfl (.tmp 41) (.tmp 44) 32 32 rfl 5 Tryz.underlying32 (by kernel_rfl) (some ⟨w.heap.size, m, none⟩) (some ⟨w.heap.size, 0, none⟩) (n - m) (n - m) m n (by simp [Act.eval, Act.put]) (by simp [Act.eval, Act.put]) w.heap.size m (zrep x n m) 5 hg (List.replicate k (.int .u8 x)) (by rw [List.length_replicate, hk1]) (fun _ => ⟨rfl, _, rfl, hsrc2⟩) (by rw [List.length_replicate, zrep_len hm]; exact hk3) (hone _) w.heap.size w (hb.trans ((Below.refl _ _).drew)) (Nat.le_refl _) ?_; intro w4 hg4 hb4)
      have hg5 := hg4.out
      rw [zrep_splice hk3] at hg5
      go_wp2
      refine ⟨?_, ?_⟩
      · repeat apply Exists.intro
        refine ⟨?_, rfl⟩
        exact ⟨m + k, by simp, hk3, by omega, hg5, hb4⟩
      · show n - (RowKit.intOf (.int .i64 ((m : Int) + (k : Int)))).toNat < n - (RowKit.intOf (.int .i64 (m : Int))).toNat
        show n - ((m : Int) + (k : Int)).toNat < n - ((m : Int)).toNat
        omega
    · obtain rfl : m = n := by omega
      go_wp2
      go_ret
      exact ⟨w.heap.size, rfl, Nat.le_refl _, hg, hb⟩
def F_slices_Repeat_byte_byte_sig : Sig := ⟨[.v false [.d (.sl (.int .u8))], .v false [.d (.int .i64)]], [(false, [.own 5 (.int .u8)])]⟩
def F_slices_Repeat_byte_byte (l : List Int) (n : Int) : Option (List Int) := match l with
  | [x] => cond (decide (0 ≤ n) && decide (n ≤ 100000)) (some (List.replicate n.toNat x)) none
  | _ => none
theorem F_slices_Repeat_byte_byte_sound {T : Tab} : SoundFn Tryz.prog T 154 F_slices_Repeat_byte_byte_sig ⟨F_slices_Repeat_byte_byte⟩ := by
  refine sound_of rfl fun F g O xs ls y tmf w args hT hw hlim hls happ hsz hr => ?_
  obtain ⟨(l : List Int), xs', rfl, h2⟩ := appF_inv_c (ts := [.int .i64]) happ
  obtain ⟨(nn : Int), xs'', rfl, h2'⟩ := appF_inv_c (ts := []) h2
  obtain ⟨rfl, h3⟩ := appF_inv_n h2'
  have hls' : some [Leaf.d (.sl (.int .u8)) l, Leaf.d (.int .i64) nn] = some ls := hls
  injection hls' with hls'
  subst hls'
  obtain ⟨a, n, c, e0, e1, e2, e3, e4, e5, e6⟩ := rel_ints (hr 0)
  obtain ⟨f0, f1⟩ := rel_int (hr 1)
  rw [args_2 hsz, e0, f0]
  have h3 : F_slices_Repeat_byte_byte l nn = some y := h3
  obtain ⟨x, rfl⟩ : ∃ x, l = [x] := by
    match l, h3 with
    | [], h3 => cases h3
    | [x], _ => exact ⟨x, rfl⟩
    | _ :: _ :: _, h3 => cases h3
  have h3 : cond (decide (0 ≤ nn) && decide (nn ≤ 100000)) (some (List.replicate nn.toNat x)) none = some y := h3
  cases hb : (decide (0 ≤ nn) && decide (nn ≤ 100000)) with
  | false => rw [hb] at h3; cases h3
  | true =>
    rw [hb] at h3
    have hy : List.replicate nn.toNat x = y := by injection h3
    rw [Bool.and_eq_true, decide_eq_true_iff, decide_eq_true_iff] at hb
    obtain ⟨m, rfl⟩ : ∃ m : Nat, nn = (m : Int) := ⟨nn.toNat, by omega⟩
    rw [Int.toNat_natCast] at hy
    subst hy
    have hn1 : n = 1 := e1.symm
    subst hn1
    cases a with
    | none => cases e6 rfl
    | some ad =>
      refine (rep_walk ad c x m (by omega) w e2 (by have := e5 ad rfl 0 x rfl; simpa [Addr.add] using this)).mono ?_
      rintro e w' ⟨b, rfl, hb0, hg, hbel⟩
      have hsz2 : (zrep x m m).toArray.size = m * 1 := by rw [List.size_toArray, zrep_len (Nat.le_refl _), Nat.mul_one]
      have hmax : m ≤ maxLen := by
        have : maxLen = 9223372036854775807 := rfl
        omega
      have hll : (List.replicate m x).length = m := List.length_replicate
      have hzm : zrep x m m = (List.replicate m x).map (Value.int .u8) := by
        unfold zrep
        rw [Nat.sub_self, List.replicate_zero, List.append_nil, List.map_replicate]
      refine own_row (l := List.replicate m x) hw hlim hbel ?_ (fun z hz => by rw [(List.mem_replicate.1 hz).2]; exact e4 x List.mem_cons_self) rfl rfl
      rw [hll]
      refine ⟨by simp, .inr ⟨b, m, (zrep x m m).toArray, rfl, hb0, hg, Nat.le_refl _, hmax, hsz2, ?_⟩⟩
      rw [List.toList_toArray, Nat.mul_one, List.take_of_length_le (by rw [zrep_len (Nat.le_refl _)]; exact Nat.le_refl _), hzm]
end Go.Proofs.YtgfmfgombmpodaaGreatDoor
namespace Go.Proofs.YtgfmfgombmpodaaGreatDoor
open Go.RowKit Go.Shelf Pv
set_option linter.unusedVariables false
def gv (l : List Int) (i : Nat) : Nat → Int
  | 0 => 0
  | t + 1 => gv l i t * 256 + l.getD (i + t) 0
theorem getD_in {l : List Int} (hl : ∀ x ∈ l, 0 ≤ x ∧ x < 256) (i : Nat) : 0 ≤ l.getD i 0 ∧ l.getD i 0 < 256 := by
  rw [List.getD_eq_getElem?_getD]
  cases h : l[i]? with
  | none => exact ⟨by decide, by decide⟩
  | some x => exact hl x (List.mem_of_getElem? h)
theorem gv_in {l : List Int} (hl : ∀ x ∈ l, 0 ≤ x ∧ x < 256) (i : Nat) : ∀ t, 0 ≤ gv l i t ∧ gv l i t < 256 ^ t
  | 0 => ⟨Int.le_refl 0, by show (0 : Int) < 1; decide⟩
  | t + 1 => by
    obtain ⟨h1, h2⟩ := gv_in hl i t
    obtain ⟨h3, h4⟩ := getD_in hl (i + t)
    unfold gv
    refine ⟨by omega, ?_⟩
    rw [Int.pow_succ]
    omega
theorem e40 : (2 : Int) ^ 40 = 1099511627776 := by decide
theorem w64 {x : Int} (h0 : 0 ≤ x) (h1 : x < 1099511627776) : IntKind.i64.wrap x = x := by
  show (if (true && decide (x % 18446744073709551616 ≥ 9223372036854775808)) = true then x % 18446744073709551616 - 18446744073709551616 else x % 18446744073709551616) = x
  simp only [Bool.true_and, decide_eq_true_eq]
  split <;> omega
theorem or8 {x y : Int} (hx : 0 ≤ x) (hx1 : x < 1099511627776) (hm : x % 256 = 0) (hy : 0 ≤ y) (hy1 : y < 256) : bits .or .i64 x y = x + y :=
  bits_join .i64 40 (by decide) (fun n h0 h1 => w64 h0 (by rw [← e40]; exact h1)) 8 x y hx hm (by rw [e40]; exact hx1) hy hy1 (by rw [e40]; omega)
theorem and63 {x : Int} (hx : 0 ≤ x) (hx1 : x < 1099511627776) : bits .and .i64 x 63 = x % 64 := bits_mask .i64 40 (by decide) (fun n h0 h1 => w64 h0 (by rw [← e40]; exact h1)) 6 (by decide) x hx (by rw [e40]; exact hx1)
theorem wr64e {x : Int} (h0 : -9223372036854775808 ≤ x) (h1 : x ≤ 9223372036854775807) : wrap64 x = x := by unfold wrap64; omega
def sigs : List UInt8 := [65, 66, 67, 68, 69, 70, 71, 72, 73, 74, 75, 76, 77, 78, 79, 80, 81, 82, 83, 84, 85, 86, 87, 88, 89, 90, 97, 98, 99, 100, 101, 102, 103, 104, 105, 106, 107, 108, 109, 110, 111, 112, 113, 114, 115, 116, 117, 118, 119, 120, 121, 122, 48, 49, 50, 51, 52, 53, 54, 55, 56, 57, 43, 47]
def sgn (m : Nat) (v : Int) (t : Nat) : UInt8 := if m < t then 61 else sigs.getD ((v / 2 ^ (6 * (3 - t))) % 64).toNat 0
def grp (l : List Int) (i t : Nat) : List UInt8 := (List.range t).map (sgn (min (l.length - i) 3) (gv l i 3))
def sigA : ByteArray := ⟨#[65, 66, 67, 68, 69, 70, 71, 72, 73, 74, 75, 76, 77, 78, 79, 80, 81, 82, 83, 84, 85, 86, 87, 88, 89, 90, 97, 98, 99, 100, 101, 102, 103, 104, 105, 106, 107, 108, 109, 110, 111, 112, 113, 114, 115, 116, 117, 118, 119, 120, 121, 122, 48, 49, 50, 51, 52, 53, 54, 55, 56, 57, 43, 47]⟩
theorem sigA_size : sigA.size = 64 := rfl
theorem sig_at {q : Nat} (h : q < 64) : sigs.getD q 0 = sigA[q]'(by rw [sigA_size]; exact h) := by
  rw [List.getD_eq_getElem?_getD, List.getElem?_eq_getElem (show q < sigs.length from h)]
  rfl
theorem grp_pad {l : List Int} {i t : Nat} (h : min (l.length - i) 3 < t) : grp l i (t + 1) = grp l i t ++ [61] := by
  unfold grp
  rw [List.range_succ, List.map_append]
  show _ ++ [sgn _ _ t] = _
  rw [show sgn (min (l.length - i) 3) (gv l i 3) t = 61 from if_pos h]
theorem grp_sig {l : List Int} {i t : Nat} (h : ¬ min (l.length - i) 3 < t) : grp l i (t + 1) = grp l i t ++ [sigs.getD ((gv l i 3 / 2 ^ (6 * (3 - t))) % 64).toNat 0] := by
  unfold grp
  rw [List.range_succ, List.map_append]
  show _ ++ [sgn _ _ t] = _
  rw [show sgn (min (l.length - i) 3) (gv l i 3) t = sigs.getD ((gv l i 3 / 2 ^ (6 * (3 - t))) % 64).toNat 0 from if_neg h]
def encK (l : List Int) : Nat → List UInt8
  | 0 => []
  | k + 1 => encK l k ++ grp l (3 * k) 4
theorem encK_len (l : List Int) : ∀ k, (encK l k).length = 4 * k
  | 0 => rfl
  | k + 1 => by
    show (encK l k ++ grp l (3 * k) 4).length = _
    rw [List.length_append, encK_len l k]
    simp only [grp, List.length_map, List.length_range]
    omega
def encB (l : List Int) : List UInt8 := encK l ((l.length + 2) / 3)
set_option maxHeartbeats 4000000 in
set_option maxRecDepth 1000000 in
theorem enc_walk (l : List Int) (hl : ∀ x ∈ l, 0 ≤ x ∧ x < 256) (a : Option Addr) (n c : Nat) (hlen : l.length = n) (hn : n ≤ 1099511627776) (w : World) (hcells : ∀ i x, l[i]? = some x → ∃ ad, a = some ad ∧ w.cell? (ad.add i) = some (.int .u8 x)) :
    Calls Tryz.prog 49 #[.slice a n c] w fun e w' => e = .returned (.string ⟨(encB l).toArray⟩) ∧ Below w.heap.size w w' := by
  go_enter Tryz.func49, Tryz.ntmps49
  go_wp2
  go_loopw [4] (fun v wr => ∃ (i k : Nat), v = .int .i64 i ∧ 3 * k = i ∧ i ≤ n + 2 ∧ Lib.IsBuilderF 155 5 w.heap.size w.heap.size (Lib.byteCells (encK l k)) wr ∧ Below w.heap.size w wr) (fun i _ => n + 3 - (intOf i).toNat)
  case atStart =>
    refine ⟨0, 0, rfl, rfl, by omega, Lib.IsBuilderF.of (Lib.fresh_isBuilder 155 5 w), (Below.refl _ w).alloc (Nat.le_refl _) _⟩
  case round =>
    obtain ⟨i, k, rfl, hik, hk, hI, hb⟩ := hrel
    have hal := encK_len l k
    obtain ⟨acc, hacc⟩ : ∃ acc, encK l k = acc := ⟨_, rfl⟩
    rw [hacc] at hI hal
    obtain ⟨wo, rfl⟩ : ∃ wo : World, wo = wr := ⟨_, rfl⟩
    have hsz : w.heap.size ≤ wo.heap.size := hb.size
    by_cases hlt : i < n
    · obtain ⟨ad, rfl, _⟩ := hcells i _ (List.getElem?_eq_getElem (by omega))
      have hcell : ∀ j, j < n → wo.cell? (ad.add j) = some (.int .u8 (l.getD j 0)) := fun j hj => by
        obtain ⟨ad', e, h2⟩ := hcells j _ (List.getElem?_eq_getElem (by omega))
        cases e
        rw [List.getD_eq_getElem?_getD, List.getElem?_eq_getElem (by omega), Option.getD_some]
        rw [hb.cell (cell_lt h2)]; exact h2
      have hg3 := gv_in hl (i) 3
      obtain ⟨m, hmN, hmin⟩ : ∃ m : Nat, min (l.length - i) 3 = m ∧ min ((n : Int) - i) 3 = (m : Int) := ⟨_, rfl, by omega⟩
      clear hcells
      go_wp2
      go_loopw [6, 20] (fun all j wr => wr = wo ∧ ∃ t : Nat, t ≤ 3 ∧ j = .int .i64 t ∧ all = .int .i64 (gv l (i) t)) (fun _ j _ => 3 - (intOf j).toNat)
      case atStart => exact ⟨rfl, 0, by omega, rfl, rfl⟩
      case round =>
        obtain ⟨rfl, t, ht, rfl, rfl⟩ := hrel
        by_cases ht3 : t < 3
        · have hgt := gv_in hl (i) t
          have hp : (256 : Int) ^ t ≤ 65536 := by
            match t, ht3 with
            | 0, _ => decide
            | 1, _ => decide
            | 2, _ => decide
          have hgn : gv l (i) (t + 1) = gv l (i) t * 256 + l.getD (i + t) 0 := rfl
          have hlx := getD_in hl (i + t)
          by_cases hin : i + t < n
          · have htm : t < m := by omega
            have hc := hcell (i + t) hin
            have hor : bits BinOp.or IntKind.i64 (gv l (i) t * 256) (wrap64 (l.getD (i + t) 0)) = gv l (i) (t + 1) := by
              rw [wr64e (by omega) (by omega), or8 (by omega) (by omega) (by omega) hlx.1 hlx.2, hgn]
            have hgd : l.getD (i + t) 0 = l[i + t] := by rw [List.getD_eq_getElem?_getD, List.getElem?_eq_getElem (by omega), Option.getD_some]
            rw [hgd] at hor
            clear hcell hl hgn hlx
            go_wp2
            go_roundw
            case rel => exact ⟨trivial, t + 1, by omega, by simp, by first | rfl | rw [hor]⟩
            case measure => simp [intOf]; omega
          · have htm : ¬ t < m := by omega
            have hz : gv l (i) t * 256 = gv l (i) (t + 1) := by
              rw [hgn, List.getD_eq_getElem?_getD, List.getElem?_eq_none (by omega)]
              simp
            clear hcell hl hgn hlx
            go_wp2
            go_roundw
            case rel => exact ⟨trivial, t + 1, by omega, by simp, by first | rfl | rw [hz]⟩
            case measure => simp [intOf]; omega
        · obtain rfl : t = 3 := by omega
          clear hcell hl
          go_wp2
          go_loopw [38] (fun j wr => ∃ t : Nat, t ≤ 4 ∧ j = .int .i64 t ∧ Lib.IsBuilderF 155 5 w.heap.size w.heap.size (Lib.byteCells (acc ++ grp l (i) t)) wr ∧ Below w.heap.size w wr) (fun j _ => 4 - (intOf j).toNat)
          case atStart => exact ⟨0, by omega, rfl, by simpa [grp] using hI, hb⟩
          case round =>
            obtain ⟨t, ht, rfl, hI2, hb2⟩ := hrel
            have hsz2 : w.heap.size ≤ wr.heap.size := hb2.size
            by_cases ht4 : t < 4
            · have hlb : (Lib.byteCells (acc ++ grp l (i) t)).length + 1 ≤ 140737488355328 := by
                rw [Lib.byteCells_length, List.length_append]
                simp only [grp, List.length_map, List.length_range]
                omega
              by_cases hm : m < t
              · have hmi : (m : Int) < (t : Int) := by omega
                have hs : grp l (i) (t + 1) = grp l (i) t ++ [61] := grp_pad (by rw [hmN]; exact hm)
                go_wp2_with (go_at_call 91; refine (wb_k w.heap.size w.heap.size _ 61 _ hI2 hlb hsz2).mono ?_)
                rintro e W1 ⟨rfl, h1, b1, k1⟩
                go_wp2
                refine ⟨⟨_, _, _, _, _, _, _, _, _, _, _, _, _, _, _, _, _, ⟨t + 1, by omega, ?relA, ?relB, hb2.trans b1⟩, rfl⟩, ?meas⟩
                case relA => simp
                case relB => rw [hs, ← List.append_assoc, Lib.byteCells_append]; exact Or.inr h1
                case meas => simp [intOf]; omega
              · have hmi : (t : Int) ≤ (m : Int) := by omega
                have hmj : t ≤ m := by omega
                have hs : grp l (i) (t + 1) = grp l (i) t ++ [sigs.getD ((gv l (i) 3 / 2 ^ (6 * (3 - t))) % 64).toNat 0] := grp_sig (by rw [hmN]; exact hm)
                obtain ⟨q, hq, hidx⟩ : ∃ q : Nat, q < 64 ∧ gv l (i) 3 / 2 ^ (6 * (3 - t)) % 64 = (q : Int) := ⟨(gv l (i) 3 / 2 ^ (6 * (3 - t)) % 64).toNat, by omega, by omega⟩
                have hidx2 : bits BinOp.and IntKind.i64 (gv l (i) 3 / 2 ^ (6 * (3 - t))) 63 = (q : Int) := by
                  have hp : (0 : Int) < 2 ^ (6 * (3 - t)) := Int.pow_pos (by decide)
                  have h1 : 0 ≤ gv l (i) 3 / 2 ^ (6 * (3 - t)) := Int.ediv_nonneg hg3.1 (by omega)
                  have h2 : gv l (i) 3 / 2 ^ (6 * (3 - t)) ≤ gv l (i) 3 := Int.ediv_le_self _ hg3.1
                  rw [and63 h1 (by have := hg3.2; omega), hidx]
                rw [hidx, Int.toNat_natCast] at hs
                clear hidx hg3
                go_wp2_with (go_at_call 91; refine (wb_k w.heap.size w.heap.size _ _ _ hI2 hlb hsz2).mono ?_)
                rintro e W1 ⟨rfl, h1, b1, k1⟩
                go_wp2
                refine ⟨⟨_, _, _, _, _, _, _, _, _, _, _, _, _, _, _, _, _, ⟨t + 1, by omega, ?relC, ?relD, hb2.trans b1⟩, rfl⟩, ?meaS⟩
                case relC => simp
                case relD =>
                  have key : Lib.byteCells (acc ++ grp l (i) (t + 1)) = Lib.byteCells (acc ++ grp l (i) t) ++ [.int .u8 ((sigA[q]'(by rw [sigA_size]; exact hq)).toNat : Nat)] := by
                    rw [hs, ← List.append_assoc, Lib.byteCells_append, sig_at hq]; rfl
                  rw [key]
                  exact Or.inr h1
                case meaS => simp [intOf]; omega
            · obtain rfl : t = 4 := by omega
              go_wp2
              go_roundw
              case rel =>
                refine ⟨i + 3, k + 1, by simp, by omega, by omega, ?_, hb2⟩
                show Lib.IsBuilderF _ _ _ _ (Lib.byteCells (encK l k ++ grp l (3 * k) 4)) _
                rw [hacc, hik]; exact hI2
              case measure => simp [intOf]; omega
    · go_wp2_with (go_at_call 92; refine (Tryz.Builder_String_any_k w.heap.size w.heap.size acc _ hI (by omega)).mono ?_)
      rintro e W1 ⟨rfl, _, b1, _⟩
      go_wp2
      go_ret
      have e : (l.length + 2) / 3 = k := by omega
      unfold encB
      rw [e, hacc]
      exact ⟨rfl, hb.trans b1⟩
end Go.Proofs.YtgfmfgombmpodaaGreatDoor
namespace Go.Proofs.YtgfmfgombmpodaaGreatDoor
open Pv Go.RowKit
set_option linter.unusedVariables false
def F_b64_Encode_sig : Sig := ⟨[.v false [.d (.sl (.int .u8))]], [(false, [.d .str])]⟩
def F_b64_Encode (l : List Int) : Option (List Int) := cond (Nat.ble l.length 1099511627776) (some ((encB l).map byteI)) none
theorem ent_enc (l : List Int) : (entrySt F_b64_Encode_sig [⟨.sl (.int .u8), l⟩]).map (fun st => st.φ 0) = some (.w false [.d (.sl (.int .u8)) l]) := rfl
theorem exit_enc (y : List Int) : ∃ st', exitSt F_b64_Encode_sig y = some st' ∧ st'.φ 0 = .w false [.d .str y] ∧ (∀ i, st'.φ (i + 1) = .dead) ∧ (∀ k, st'.L k = none) ∧ (∀ k, st'.O k = true → k = .zero) ∧ st'.kn = [] ∧ st'.fr = [] :=
  ⟨_, rfl, rfl, fun _ => rfl, fun k => by match k with | 0 => rfl | _ + 1 => rfl, fun k hk => by
    have hk : hasT [.zero] k = true := hk
    simpa using hasT_iff.1 hk, rfl, rfl⟩
theorem encB_len (l : List Int) : (encB l).length = 4 * ((l.length + 2) / 3) := encK_len l _
theorem F_b64_Encode_sound {T : Tab} : SoundFn Tryz.prog T 49 F_b64_Encode_sig ⟨F_b64_Encode⟩ := by
  intro F g st xs y tmf w args _ hent happ hrel hw hn hsz htm
  obtain ⟨(l : List Int), xs', rfl, h2⟩ := appF_inv_c (ts := []) happ
  obtain ⟨rfl, h3⟩ := appF_inv_n h2
  have hφ : Option.map (fun st : PSt => st.φ 0) (some st) = _ := (congrArg _ hent).symm.trans (ent_enc l)
  have hφ : some (st.φ 0) = some _ := hφ
  injection hφ with hφ
  have h0 := hrel.slots 0
  rw [hφ, htm 0] at h0
  obtain ⟨a, n, c, e0, e1, e2, e3, e4, e5⟩ := rel_bytes h0
  have ha : args = #[.slice a n c] := by
    obtain ⟨al⟩ := args
    match al, hsz with
    | [v], _ =>
      have : v = .slice a n c := e0
      rw [this]
  subst ha
  have h3 : cond (Nat.ble l.length 1099511627776) (some ((encB l).map byteI)) none = some y := h3
  cases hb : Nat.ble l.length 1099511627776 with
  | false => rw [hb] at h3; cases h3
  | true =>
    rw [hb] at h3
    have hy : (encB l).map byteI = y := by injection h3
    have hle : l.length ≤ 1099511627776 := Nat.le_of_ble_eq_true hb
    obtain ⟨st', x1, x2, x3, x4, x5, x6, x7⟩ := exit_enc y
    refine (enc_walk l e4 a n c e1 (by rw [← e1]; exact hle) w e5).mono fun e w' ⟨he, hbel⟩ => ⟨[.string ⟨(encB l).toArray⟩], _, st', he, rfl, x1, mrel_out (t := .str) (x := y) hrel hbel ⟨_, rfl, ?_, ?_⟩ x2 x3 x4 x5 x6 x7, fun k hk => ?_⟩
    · rw [← hy]
      show (encB l).toArray.toList.map byteI = _
      rw [List.toList_toArray]
    · show (encB l).toArray.size ≤ maxLen
      rw [List.size_toArray, encB_len]
      unfold maxLen
      omega
    · cases k with
      | zero => cases hk
      | succ k => cases k <;> cases hk
end Go.Proofs.YtgfmfgombmpodaaGreatDoor
namespace Go.Proofs.YtgfmfgombmpodaaGreatDoor
open Go.RowKit Go.Lib Pv
set_option linter.unusedVariables false

set_option maxHeartbeats 4000000 in
set_option maxRecDepth 1000000 in
theorem scl_at (a : Addr) (n c : Nat) (l : List Int) (w : World) (hl : l.length = n) (hbig : n ≤ 140737488355328) (hc : ∀ (i : Nat) x, l[i]? = some x → w.cell? (a.add i) = some (.int .u8 x)) :
    Calls Tryz.prog 43 #[.slice (some a) n c] w fun e w' => ∃ v', e = .returned v' ∧ w'.ownsRow w.heap.size 5 1 v' n (l.map (Value.int .u8)) ∧ Below w.heap.size w w' := by
  obtain ⟨i0, hi, hz0, hz1, hz2⟩ := info_parts infoU
  have q22 : ∀ (w : World) (a : Option Addr) (n c n' c' : Nat), (binOp .eql 32 (.slice a n c) (.slice none n' c')).run Tryz.prog w = .ok (.bool a.isNone) w := fun w a n c n' c' => Lib.run_eql_slice_nil w _ _ a n c n' c' Tryz.underlying32
  have A : Aside (∀ (i : Nat) x, l[i]? = some x → w.cell? (a.add i) = some (.int .u8 x)) := hc
  clear hc
  go_enter Tryz.func43, Tryz.ntmps43
  go_wp2_with (at_builtin; refine wpList_append_own _ rfl _ _ 32 rfl w.heap.size 5 i0 (.int .u8 0) 1 1 Tryz.underlying32 hi hz0 hz1 hz2 rfl (by decide) _ _ _ rfl (World.ownsRow_made w #[] 0 (Nat.le_refl _) (Nat.zero_le _) rfl) a n c (l.map (Value.int .u8)) rfl ?qc1 ?qc2 ?qc3 ?qc4 ?qc5 ?qc6 ?_)
  case qc1 => simp; omega
  case qc2 =>
    intro j u hj
    rw [List.getElem?_map] at hj
    obtain ⟨x, hx, rfl⟩ := Option.map_eq_some_iff.1 hj
    exact Lib.cell?_alloc_some _ (A.out j x hx)
  case qc3 => intro u hu; obtain ⟨x, _, rfl⟩ := List.mem_map.1 hu; rfl
  case qc4 => unfold maxLen; omega
  case qc5 => omega
  case qc6 => simp
  intro v' w1 hown hgrow hnil
  go_wp2
  go_ret
  exact ⟨v', rfl, by simpa using hown, ((Below.refl _ w).alloc (Nat.le_refl _) _).grown hgrow (by simp) (by intro k hk; simp [Value.ownBlock] at hk; omega)⟩
set_option maxHeartbeats 4000000 in
theorem scl_nil (n c : Nat) (w : World) : Calls Tryz.prog 43 #[.slice none n c] w fun e w' => e = .returned (.slice none 0 0) ∧ w' = w := by
  have q22 : ∀ (w : World) (a : Option Addr) (n c n' c' : Nat), (binOp .eql 32 (.slice a n c) (.slice none n' c')).run Tryz.prog w = .ok (.bool a.isNone) w := fun w a n c n' c' => Lib.run_eql_slice_nil w _ _ a n c n' c' Tryz.underlying32
  go_enter Tryz.func43, Tryz.ntmps43
  go_wp2
  go_ret
  exact ⟨rfl, rfl⟩
theorem F_slices_Clone_byte_byte_sound {T : Tab} : SoundFn Tryz.prog T 43 F_slices_Clone_byte_byte_sig ⟨F_slices_Clone_byte_byte⟩ := by
  refine sound_of rfl fun F g O xs ls y tmf w args hT hw hlim hls happ hsz hr => ?_
  obtain ⟨(l : List Int), xs', rfl, h2⟩ := appF_inv_c (ts := []) happ
  obtain ⟨rfl, h3⟩ := appF_inv_n h2
  have hls' : some [Leaf.d (.sl (.int .u8)) l] = some ls := hls
  injection hls' with hls'
  subst hls'
  obtain ⟨a, n, c, e0, e1, e2, e3, e4, e5, e6⟩ := rel_ints (hr 0)
  rw [args_1 hsz, e0]
  have h3 : cond (Nat.ble l.length 100000000) (some l) none = some y := h3
  cases hb : Nat.ble l.length 100000000 with
  | false => rw [hb] at h3; cases h3
  | true =>
    rw [hb] at h3
    have hy : l = y := by injection h3
    have hb := Nat.le_of_ble_eq_true hb
    subst hy
    cases a with
    | none =>
      have hl := e6 rfl
      refine (scl_nil n c w).mono ?_
      rintro e w' ⟨rfl, rfl⟩
      exact own_row (l := l) hw hlim (Below.refl _ _) (by rw [hl]; exact World.ownsRow_nil _ _ _ _) e4 rfl rfl
    | some ad =>
      refine (scl_at ad n c l w e1 (by omega) (e5 ad rfl)).mono ?_
      rintro e w' ⟨v, rfl, h1, h2⟩
      exact own_row (l := l) hw hlim h2 (by rw [e1]; exact h1) e4 rfl rfl

def growRen : Go.Shelf.Ren := ⟨fun | 4 => 89 | n => n, fun | 22 => 32 | 25 => 5 | n => n, fun n => n⟩
theorem growLays : Lays8.n4 Tryz.prog growRen := {
  mixed := by kernel_rfl
  f4 := ⟨"slices.Grow[[]byte,byte]", by decide, Tryz.func89.trans (congrArg some (by kernel_rfl))⟩
  t0 := Tryz.underlying0
  a0 := Tryz.isAgg0
  z0 := Tryz.sizeOf0
  v0 := Tryz.zeroValue0
  t3 := Tryz.underlying3
  a3 := Tryz.isAgg3
  z3 := Tryz.sizeOf3
  v3 := Tryz.zeroValue3
  t4 := Tryz.underlying4
  a4 := Tryz.isAgg4
  z4 := Tryz.sizeOf4
  v4 := Tryz.zeroValue4
  t9 := Tryz.underlying9
  a9 := Tryz.isAgg9
  z9 := Tryz.sizeOf9
  v9 := Tryz.zeroValue9
  t20 := Tryz.underlying20
  a20 := Tryz.isAgg20
  z20 := Tryz.sizeOf20
  v20 := Tryz.zeroValue20
  t22 := Tryz.underlying32
  a22 := Tryz.isAgg32
  z22 := Tryz.sizeOf32
  v22 := Tryz.zeroValue32 }
theorem grow_nil (n : Nat) (hn : n ≤ 1000000000) (w : World) :
    Calls Tryz.prog 89 #[.slice none 0 0, .int .i64 n] w fun e w' => ∃ v, e = .returned v ∧ w'.ownsRow w.heap.size 5 1 v 0 [] ∧ Below w.heap.size w w' := by
  obtain ⟨i0, hi, hz0, hz1, hz2⟩ := info_parts infoU
  by_cases h0 : n = 0
  · subst h0
    refine (Any8.slices_Grow_room growLays none 0 0 0 w (Nat.le_refl _) (by omega) (by omega) (Nat.le_refl _)).mono ?_
    rintro e w' ⟨rfl, rfl⟩
    exact ⟨_, rfl, World.ownsRow_nil _ _ _ _, Below.refl _ _⟩
  · refine (Any8.slices_Grow_grow growLays i0 (.int .u8 0) hi hz0 (by rw [hz1]; decide) none 0 0 n [] w (Nat.le_refl _) (by omega) (by rw [hz2]; omega) (by omega) (by simp) (fun _ => rfl) (fun a h => by cases h)).mono ?_
    rintro e w' ⟨rfl, rfl⟩
    have hge := grownCap_ge w (0 + n) 0 5
    have hle := grownCap_le_maxLen w (0 + n) 0 5 (by unfold maxLen; omega)
    refine ⟨_, rfl, World.ownsRow_made w.drew _ _ (Nat.le_refl _) hle ?_, ((Below.refl _ w).drew).alloc (Nat.le_refl _) _⟩
    have e : (Value.int .u8 0).cells.size = 1 := rfl
    show (#[] ++ Builtin.zeroCells (Value.int .u8 0).cells (0 + n - 0) ++ Builtin.zeroCells (Value.int .u8 0).cells (grownCap w (0 + n) 0 5 - (0 + n))).size = grownCap w (0 + n) 0 5 * 1
    rw [Array.size_append, Array.size_append, size_zeroCells, size_zeroCells, e]
    simp only [List.size_toArray, List.length_nil]
    omega
def InRowQ (w : World) (a : Option Addr) (L : List (List Int)) : Prop := ∀ (i : Nat) l, L[i]? = some l → ∃ ad b n c, a = some ad ∧ w.cell? (ad.add i) = some (.slice b n c) ∧ l.length = n ∧ (∀ bd, b = some bd → ∀ (j : Nat) x, l[j]? = some x → w.cell? (bd.add j) = some (.int .u8 x)) ∧ (b = none → l = [])
theorem take_flat {L : List (List Int)} {k : Nat} {l : List Int} (h : L[k]? = some l) : (L.take (k + 1)).flatten = (L.take k).flatten ++ l := by
  rw [List.take_add_one, h, List.flatten_append]
  simp
theorem take_flat_le (L : List (List Int)) (k : Nat) : (L.take k).flatten.length ≤ L.flatten.length := by
  have : L.flatten = (L.take k).flatten ++ (L.drop k).flatten := by rw [← List.flatten_append, List.take_append_drop]
  rw [this, List.length_append]; omega
theorem run_app_none {P : Program} {w : World} (base : Nat) (t ty e : TypeId) (i : TypeInfo) (size : Nat) (ht : P.underlying t = some (.slice e)) (hi : P.info? e = some i) (v : Value) (n c : Nat) (xs : List Value) (hown : w.ownsRow base e size v n xs) :
    (Builtin.append_ #[t, t] ty #[v, .slice none 0 c]).run P w = .ok v w := by
  rcases hown.2 with ⟨rfl, rfl⟩ | ⟨g, cap, cur, rfl, _, _, hnc, _⟩
  · simp [Builtin.append_, run_underlying ht, sizeOf, typeInfo, hi, Builtin.lenOf, Builtin.firstCells]
  · simp [Builtin.append_, run_underlying ht, sizeOf, typeInfo, hi, Builtin.lenOf, Builtin.firstCells, hnc, storeCells]
theorem wpList_app_any {P : Program} {w : World} {ops : Array Oper} {rest : List Oper} {o : Oper} {a : Act} {Q : Exit → Act → World → Prop} (hgd : o.guard = none) (s x : Operand) (t : TypeId)
    (ho : o.op = .call { callee := .builtin .append, args := #[s, x], argTypes := #[t, t] }) (base : Nat) (e : TypeId) (i : TypeInfo) (z : Value) (ht : P.underlying t = some (.slice e)) (hi : P.info? e = some i) (hz : i.zero = some z) (hsize : i.size = 1) (hby : i.bytes = 1) (hzs : z.cells.size = 1)
    (v : Value) (n : Nat) (xs : List Value) (hs : a.eval s = v) (hown : w.ownsRow base e 1 v n xs) (b : Option Addr) (m c : Nat) (l : List Int) (hx : a.eval x = .slice b m c) (hl : l.length = m)
    (hin : ∀ bd, b = some bd → ∀ (j : Nat) y, l[j]? = some y → w.cell? (bd.add j) = some (.int .u8 y)) (hnil : b = none → l = []) (hbytes : n + m ≤ 1000000000) (hbase : base ≤ w.heap.size)
    (h : ∀ v' w', w'.ownsRow base e 1 v' (n + m) (xs ++ l.map (Value.int .u8)) → Below base w w' → wpList P ops Q rest (a.put o.dst v') w') : wpList P ops Q (o :: rest) a w := by
  cases b with
  | none =>
    have hl0 := hnil rfl
    subst hl0
    have hm : m = 0 := hl.symm
    subst hm
    refine wpList_plain hgd fun K hK => ?_
    have hrun := run_app_none (P := P) (w := w) base t o.type e i 1 ht hi v n c xs hown
    unfold Oper.wp
    simp [execOp, ho, resolve, invoke, builtin, hs, hx, hrun, Result.andThen]
    exact hK _ _ (h v w (by simpa using hown) (Below.refl _ _))
  | some ad =>
    refine wpList_append_own w hgd s x t ho base e i z 1 1 ht hi hz hsize hby hzs (by omega) v n xs hs hown ad m c (l.map (Value.int .u8)) hx (by rw [List.length_map, hl, Nat.mul_one]) (fun j u hj => ?_) (fun u hu => ?_) (by unfold maxLen; omega) (by omega) hbase fun v' w' h1 h2 _ => h v' w' h1 ((Below.refl _ w).grown h2 hbase fun k hk => ?_)
    · rw [List.getElem?_map] at hj
      obtain ⟨y, hy, rfl⟩ := Option.map_eq_some_iff.1 hj
      exact hin ad rfl j y hy
    · obtain ⟨y, _, rfl⟩ := List.mem_map.1 hu
      rfl
    · rcases hown.2 with ⟨rfl, _⟩ | ⟨b0, cap, cur, rfl, hb0, _⟩
      · simp [Value.ownBlock] at hk
      · simp [Value.ownBlock] at hk
        omega
theorem InRowQ.below {w w' : World} {a : Option Addr} {L : List (List Int)} (h : InRowQ w a L) (hb : Below w.heap.size w w') : InRowQ w' a L := fun i l hl => by
  obtain ⟨ad, b, n, c, h1, h2, h3, h4, h5⟩ := h i l hl
  have keep : ∀ {p : Addr} {u : Value}, w.cell? p = some u → w'.cell? p = some u := fun {p u} hp => by rw [hb.cell (block_lt_of_cell hp)]; exact hp
  exact ⟨ad, b, n, c, h1, keep h2, h3, fun bd hbd j x hx => keep (h4 bd hbd j x hx), h5⟩
set_option maxHeartbeats 8000000 in
set_option maxRecDepth 1000000 in
theorem cat_walk (a : Option Addr) (m c : Nat) (L : List (List Int)) (w : World) (hm : L.length = m) (hm2 : m ≤ 100000000) (hb : L.flatten.length ≤ 100000000) (hc : Aside (InRowQ w a L)) :
    Calls Tryz.prog 45 #[.slice a m c] w fun e w' => ∃ v, e = .returned v ∧ w'.ownsRow w.heap.size 5 1 v L.flatten.length (L.flatten.map (Value.int .u8)) ∧ Below w.heap.size w w' := by
  obtain ⟨i0, hi, hz0, hz1, hz2⟩ := info_parts infoU
  go_enter Tryz.func45, Tryz.ntmps45
  go_wp2
  go_loopw [3, 11] (fun s i wr => wr = w ∧ ∃ k : Nat, k ≤ m ∧ i = .int .i64 k ∧ s = .int .i64 ((L.take k).flatten.length : Nat)) (fun _ i _ => m - (RowKit.intOf i).toNat)
  case atStart => exact ⟨rfl, 0, Nat.zero_le _, rfl, rfl⟩
  case round =>
    obtain ⟨hwr, k, hk, rfl, rfl⟩ := hrel
    have hwr := hwr.symm
    subst hwr
    have hle := take_flat_le L k
    obtain ⟨s, hs⟩ : ∃ s, (L.take k).flatten.length = s := ⟨_, rfl⟩
    rw [hs] at hle ⊢
    by_cases hlt : k < m
    · obtain ⟨l, hl⟩ : ∃ l, L[k]? = some l := ⟨L[k]'(by omega), List.getElem?_eq_getElem (by omega)⟩
      obtain ⟨ad, b, n, c', ha, hcell, hn, _⟩ := hc.out k l hl
      have hs2 : (L.take (k + 1)).flatten.length = s + n := by rw [take_flat hl, List.length_append, hs, hn]
      have hle2 := take_flat_le L (k + 1)
      rw [hs2] at hle2
      subst ha
      go_wp2
      go_roundw
      case rel => exact ⟨trivial, k + 1, by omega, by simp, by rw [hs2]; simp⟩
      case measure => simp [RowKit.intOf]; omega
    · have hkm : k = m := by omega
      subst hkm
      have hall : L.take k = L := List.take_of_length_le (by omega)
      rw [hall] at hs
      go_wp2_with (go_at_call 89; (with_reducible refine (grow_nil s (by omega) _).mono ?_); rintro e w1 ⟨v, rfl, hown, hbel⟩)
      go_loopw [6, 27] (fun v i wr => ∃ j : Nat, j ≤ k ∧ i = .int .i64 j ∧ wr.ownsRow w.heap.size 5 1 v (L.take j).flatten.length ((L.take j).flatten.map (Value.int .u8)) ∧ Below w.heap.size w wr) (fun _ i _ => k - (RowKit.intOf i).toNat)
      case atStart => exact ⟨0, Nat.zero_le _, rfl, by simpa using hown, hbel⟩
      case round =>
        obtain ⟨j, hj, rfl, hown2, hbel2⟩ := hrel
        by_cases hlt2 : j < k
        · obtain ⟨l, hl⟩ : ∃ l, L[j]? = some l := ⟨L[j]'(by omega), List.getElem?_eq_getElem (by omega)⟩
          obtain ⟨ad, b, n, c', ha, hcell, hn, hin, hnil⟩ := hc.out j l hl
          subst ha
          have hs2 : (L.take (j + 1)).flatten = (L.take j).flatten ++ l := take_flat hl
          have hle2 := take_flat_le L (j + 1)
          rw [hs2, List.length_append, hn] at hle2
          have keep : ∀ {p : Addr} {u : Value}, w.cell? p = some u → wr.cell? p = some u := fun {p u} hp => by rw [hbel2.cell (block_lt_of_cell hp)]; exact hp
          have hcell2 := keep hcell
          have B : Aside (Below w.heap.size w wr ∧ wr.ownsRow w.heap.size 5 1 u6 (L.take j).flatten.length ((L.take j).flatten.map (Value.int .u8)) ∧ (∀ bd, b = some bd → ∀ (i : Nat) y, l[i]? = some y → wr.cell? (bd.add i) = some (.int .u8 y)) ∧ (b = none → l = []) ∧ l.length = n ∧ (L.take (j + 1)).flatten = (L.take j).flatten ++ l ∧ (L.take j).flatten.length + n ≤ 1000000000) := ⟨hbel2, hown2, fun bd hbd i y hy => keep (hin bd hbd i y hy), hnil, hn, hs2, by omega⟩
          clear hbel2 hown2 hin hnil hs2 hle2 keep hcell hown hbel hs hall
          go_wp2_with (at_builtin; refine wpList_app_any rfl _ _ 32 rfl w.heap.size 5 i0 (.int .u8 0) Tryz.underlying32 hi hz0 hz1 hz2 rfl _ _ _ rfl B.out.2.1 b n c' l rfl B.out.2.2.2.2.1 B.out.2.2.1 B.out.2.2.2.1 B.out.2.2.2.2.2.2 B.out.1.size ?_; intro v2 w2 hown3 hbel3)
          go_roundw
          case rel =>
            refine ⟨j + 1, by omega, by simp, ?_, B.out.1.trans hbel3⟩
            rw [B.out.2.2.2.2.2.1, List.length_append, List.map_append, B.out.2.2.2.2.1]
            exact hown3
          case measure => simp [RowKit.intOf]; omega
        · have hjk : j = k := by omega
          subst hjk
          rw [hall] at hown2
          go_wp2
          go_ret
          rw [hs] at hown2 ⊢
          exact ⟨_, rfl, hown2, hbel2⟩
theorem inRow_of {w : World} {C : Com} {L : List (List Int)} {cs : List Value} (h : RepD w C (.sl (.sl (.int .u8))) L cs) : ∃ a m c, cs = [.slice a m c] ∧ L.length = m ∧ InRowQ w a L ∧ ∀ l ∈ L, ∀ x ∈ l, (Lit.int .u8 x).wf = true := by
  obtain ⟨a, n, c, e0, e1, e2, e3, e4⟩ := h
  have key : ∀ (i : Nat) (l : List Int), L[i]? = some l → (∃ ad b n c, a = some ad ∧ w.cell? (ad.add i) = some (.slice b n c) ∧ l.length = n ∧ (∀ bd, b = some bd → ∀ (j : Nat) x, l[j]? = some x → w.cell? (bd.add j) = some (.int .u8 x)) ∧ (b = none → l = [])) ∧ ∀ x ∈ l, (Lit.int .u8 x).wf = true := fun i l hl => by
    obtain ⟨ad, us, h1, h2, h3, h4⟩ := e4 i l hl
    obtain ⟨b, n', c', f0, f1, f2, f3, f4, f5, f6⟩ := ints_of h4
    have := (h3 0 (.slice b n' c') (by rw [f0]; rfl)).1
    rw [show (Ty.sl (Ty.int .u8)).size = 1 from rfl, Nat.mul_one, Nat.add_zero] at this
    exact ⟨⟨ad, b, n', c', h1, this, f1, f5, f6⟩, f4⟩
  refine ⟨a, n, c, e0, e1, fun i l hl => (key i l hl).1, fun l hl x hx => ?_⟩
  obtain ⟨i, hi⟩ := List.mem_iff_getElem?.1 hl
  exact (key i l hi).2 x hx
theorem F_slices_Concat_byte_byte_sound {T : Tab} : SoundFn Tryz.prog T 45 F_slices_Concat_byte_byte_sig ⟨F_slices_Concat_byte_byte⟩ := by
  refine sound_of rfl fun F g O xs ls y tmf w args hT hw hlim hls happ hsz hr => ?_
  obtain ⟨(L : List (List Int)), xs', rfl, h2⟩ := appF_inv_c (ts := []) happ
  obtain ⟨rfl, h3⟩ := appF_inv_n h2
  have hls' : some [Leaf.d (.sl (.sl (.int .u8))) L] = some ls := hls
  injection hls' with hls'
  subst hls'
  obtain ⟨a, m, c, e0, e1, e2, e3⟩ := inRow_of (rel_leaf.1 (hr 0))
  have e0 : args.getD 0 undef = .slice a m c := by injection e0
  rw [args_1 hsz, e0]
  have h3 : cond (Nat.ble L.flatten.length 100000000 && Nat.ble L.length 100000000) (some L.flatten) none = some y := h3
  cases hb : (Nat.ble L.flatten.length 100000000 && Nat.ble L.length 100000000) with
  | false => rw [hb] at h3; cases h3
  | true =>
    rw [hb] at h3
    have hy : L.flatten = y := by injection h3
    rw [Bool.and_eq_true] at hb
    have b1 := Nat.le_of_ble_eq_true hb.1
    have b2 := Nat.le_of_ble_eq_true hb.2
    subst hy
    refine (cat_walk a m c L w e1 (by omega) b1 e2).mono ?_
    rintro e w' ⟨v, rfl, h1, h2⟩
    exact own_row (l := L.flatten) hw hlim h2 h1 (fun x hx => by obtain ⟨l, hl, hx⟩ := List.mem_flatten.1 hx; exact e3 l hl x hx) rfl rfl
set_option maxHeartbeats 4000000 in
set_option maxRecDepth 1000000 in
theorem bcl_at (a : Addr) (n c : Nat) (l : List Int) (w : World) (hl : l.length = n) (hbig : n ≤ 140737488355328) (hc : ∀ (i : Nat) x, l[i]? = some x → w.cell? (a.add i) = some (.int .u8 x)) :
    Calls Tryz.prog 52 #[.slice (some a) n c] w fun e w' => ∃ v', e = .returned v' ∧ w'.ownsRow w.heap.size 5 1 v' n (l.map (Value.int .u8)) ∧ Below w.heap.size w w' := by
  obtain ⟨i0, hi, hz0, hz1, hz2⟩ := info_parts infoU
  have q22 : ∀ (w : World) (a : Option Addr) (n c n' c' : Nat), (binOp .eql 32 (.slice a n c) (.slice none n' c')).run Tryz.prog w = .ok (.bool a.isNone) w := fun w a n c n' c' => Lib.run_eql_slice_nil w _ _ a n c n' c' Tryz.underlying32
  have A : Aside (∀ (i : Nat) x, l[i]? = some x → w.cell? (a.add i) = some (.int .u8 x)) := hc
  clear hc
  go_enter Tryz.func52, Tryz.ntmps52
  go_wp2_with (at_builtin; refine wpList_append_own _ rfl _ _ 32 rfl w.heap.size 5 i0 (.int .u8 0) 1 1 Tryz.underlying32 hi hz0 hz1 hz2 rfl (by decide) _ _ _ rfl (World.ownsRow_made w #[] 0 (Nat.le_refl _) (Nat.zero_le _) rfl) a n c (l.map (Value.int .u8)) rfl ?qc1 ?qc2 ?qc3 ?qc4 ?qc5 ?qc6 ?_)
  case qc1 => simp; omega
  case qc2 =>
    intro j u hj
    rw [List.getElem?_map] at hj
    obtain ⟨x, hx, rfl⟩ := Option.map_eq_some_iff.1 hj
    exact Lib.cell?_alloc_some _ (A.out j x hx)
  case qc3 => intro u hu; obtain ⟨x, _, rfl⟩ := List.mem_map.1 hu; rfl
  case qc4 => unfold maxLen; omega
  case qc5 => omega
  case qc6 => simp
  intro v' w1 hown hgrow hnil
  go_wp2
  go_ret
  exact ⟨v', rfl, by simpa using hown, ((Below.refl _ w).alloc (Nat.le_refl _) _).grown hgrow (by simp) (by intro k hk; simp [Value.ownBlock] at hk; omega)⟩
set_option maxHeartbeats 4000000 in
theorem bcl_nil (n c : Nat) (w : World) : Calls Tryz.prog 52 #[.slice none n c] w fun e w' => e = .returned (.slice none 0 0) ∧ w' = w := by
  have q22 : ∀ (w : World) (a : Option Addr) (n c n' c' : Nat), (binOp .eql 32 (.slice a n c) (.slice none n' c')).run Tryz.prog w = .ok (.bool a.isNone) w := fun w a n c n' c' => Lib.run_eql_slice_nil w _ _ a n c n' c' Tryz.underlying32
  go_enter Tryz.func52, Tryz.ntmps52
  go_wp2
  go_ret
  exact ⟨rfl, rfl⟩
theorem F_bytes_Clone_sound {T : Tab} : SoundFn Tryz.prog T 52 F_bytes_Clone_sig ⟨F_bytes_Clone⟩ := by
  refine sound_of rfl fun F g O xs ls y tmf w args hT hw hlim hls happ hsz hr => ?_
  obtain ⟨(l : List Int), xs', rfl, h2⟩ := appF_inv_c (ts := []) happ
  obtain ⟨rfl, h3⟩ := appF_inv_n h2
  have hls' : some [Leaf.d (.sl (.int .u8)) l] = some ls := hls
  injection hls' with hls'
  subst hls'
  obtain ⟨a, n, c, e0, e1, e2, e3, e4, e5, e6⟩ := rel_ints (hr 0)
  rw [args_1 hsz, e0]
  have h3 : cond (Nat.ble l.length 100000000) (some l) none = some y := h3
  cases hb : Nat.ble l.length 100000000 with
  | false => rw [hb] at h3; cases h3
  | true =>
    rw [hb] at h3
    have hy : l = y := by injection h3
    have hb := Nat.le_of_ble_eq_true hb
    subst hy
    cases a with
    | none =>
      have hl := e6 rfl
      refine (bcl_nil n c w).mono ?_
      rintro e w' ⟨rfl, rfl⟩
      exact own_row (l := l) hw hlim (Below.refl _ _) (by rw [hl]; exact World.ownsRow_nil _ _ _ _) e4 rfl rfl
    | some ad =>
      refine (bcl_at ad n c l w e1 (by omega) (e5 ad rfl)).mono ?_
      rintro e w' ⟨v, rfl, h1, h2⟩
      exact own_row (l := l) hw hlim h2 (by rw [e1]; exact h1) e4 rfl rfl
end Go.Proofs.YtgfmfgombmpodaaGreatDoor
namespace Go.Proofs.YtgfmfgombmpodaaGreatDoor
open Pv
set_option linter.unusedVariables false
noncomputable def F_frame_Put (i1 : Int) (i2 : Int) (i3 : Int) (l4 : List Int) : Option (List Int × Int) :=
 cond (decide (i1 < 0))
 (some (([] : List Int), 1))
 (cond (decide (i1 > 255))
 (some (([] : List Int), 1))
 (cond (decide (i2 < 0))
 (some (([] : List Int), 1))
 (cond (decide (i2 > 255))
 (some (([] : List Int), 1))
 (cond (decide (i3 < 0))
 (some (([] : List Int), 1))
 (cond (decide (i3 > 2147483647))
 (some (([] : List Int), 1))
 (cond (decide ((l4.length : Int) > 16777215))
 (some (([] : List Int), 3))
 (chk (decide ((([(IntKind.u8.wrap (Int.fdiv (l4.length : Int) (2 ^ 16))), (IntKind.u8.wrap (Int.fdiv (l4.length : Int) (2 ^ 8))), (IntKind.u8.wrap (l4.length : Int)), (IntKind.u8.wrap i1), (IntKind.u8.wrap i2), (IntKind.u8.wrap (Int.fdiv i3 (2 ^ 24))), (IntKind.u8.wrap (Int.fdiv i3 (2 ^ 16))), (IntKind.u8.wrap (Int.fdiv i3 (2 ^ 8))), (IntKind.u8.wrap i3)] : List Int).length + l4.length) * 1 ≤ 140737488355328) && decide (([(IntKind.u8.wrap (Int.fdiv (l4.length : Int) (2 ^ 16))), (IntKind.u8.wrap (Int.fdiv (l4.length : Int) (2 ^ 8))), (IntKind.u8.wrap (l4.length : Int)), (IntKind.u8.wrap i1), (IntKind.u8.wrap i2), (IntKind.u8.wrap (Int.fdiv i3 (2 ^ 24))), (IntKind.u8.wrap (Int.fdiv i3 (2 ^ 16))), (IntKind.u8.wrap (Int.fdiv i3 (2 ^ 8))), (IntKind.u8.wrap i3)] : List Int).length + l4.length ≤ maxLen))
 (some ((([(IntKind.u8.wrap (Int.fdiv (l4.length : Int) (2 ^ 16))), (IntKind.u8.wrap (Int.fdiv (l4.length : Int) (2 ^ 8))), (IntKind.u8.wrap (l4.length : Int)), (IntKind.u8.wrap i1), (IntKind.u8.wrap i2), (IntKind.u8.wrap (Int.fdiv i3 (2 ^ 24))), (IntKind.u8.wrap (Int.fdiv i3 (2 ^ 16))), (IntKind.u8.wrap (Int.fdiv i3 (2 ^ 8))), (IntKind.u8.wrap i3)] : List Int) ++ l4), 0)))))))))
def F_frame_Put_sig : Sig := ⟨[.v true [.d (.int .i64), .d (.int .i64), .d (.int .i64), .d (.sl (.int .u8))]], [(false, [.own 5 (.int .u8)]), (false, [.d (.int .i64)])]⟩
def F_frame_Put_ann : List (Nat × Ann) := []
noncomputable def F_frame_Put_env : Env := ⟨Tryz.prog, [], []⟩
theorem F_frame_Put_text : pvFn F_frame_Put_env F_frame_Put_ann Tryz.f93 F_frame_Put_sig = F_frame_Put := by kernel_rfl
noncomputable def F_tale_put (i1 : Int) (i2 : Int) (i3 : Int) (l4 : List Int) : Option (List Int) :=
 (F_frame_Put i1 i2 i3 l4).bind fun x5 =>
 some x5.1
def F_tale_put_sig : Sig := ⟨[.v true [.d (.int .i64), .d (.int .i64), .d (.int .i64), .d (.sl (.int .u8))]], [(false, [.own 5 (.int .u8)])]⟩
def F_tale_put_ann : List (Nat × Ann) := []
noncomputable def F_tale_put_env : Env := ⟨Tryz.prog, [(93, ⟨F_frame_Put_sig, ⟨F_frame_Put⟩⟩)], []⟩
theorem F_tale_put_text : pvFn F_tale_put_env F_tale_put_ann Tryz.f50 F_tale_put_sig = F_tale_put := by kernel_rfl
noncomputable def F_part_flag (b1 : Bool) (i2 : Int) : Option (Int) :=
 cond b1
 (some i2)
 (some 0)
def F_part_flag_sig : Sig := ⟨[.v false [.d .bool], .v false [.d (.int .i64)]], [(false, [.d (.int .i64)])]⟩
def F_part_flag_ann : List (Nat × Ann) := []
noncomputable def F_part_flag_env : Env := ⟨Tryz.prog, [], []⟩
theorem F_part_flag_text : pvFn F_part_flag_env F_part_flag_ann Tryz.f116 F_part_flag_sig = F_part_flag := by kernel_rfl
noncomputable def F_part_bits_L4 (i1 : Int) (s : List Int × Int) : Option (((List Int) ⊕ (List Int)) ⊕ (List Int × Int)) :=
 let l3 := s.1; let i4 := s.2
 cond (decide (i4 ≥ 0))
 (chk (decide (0 ≤ (IntKind.i64.wrap (8 * i4))))
 (chk (decide ((l3.length + ([(IntKind.u8.wrap (Int.fdiv i1 (2 ^ (min ((IntKind.i64.wrap (8 * i4))).toNat 64))))] : List Int).length) * 1 ≤ 140737488355328) && decide (l3.length + ([(IntKind.u8.wrap (Int.fdiv i1 (2 ^ (min ((IntKind.i64.wrap (8 * i4))).toNat 64))))] : List Int).length ≤ maxLen))
 (some (.inr ((l3 ++ ([(IntKind.u8.wrap (Int.fdiv i1 (2 ^ (min ((IntKind.i64.wrap (8 * i4))).toNat 64))))] : List Int)), (IntKind.i64.wrap (i4 - 1)))))))
 (some (.inl (.inr l3)))
noncomputable def F_part_bits_J2 (s : List Int) : Option (List Int) :=
 let l5 := s
 some l5
noncomputable def F_part_bits (i1 : Int) (i2 : Int) : Option (List Int) :=
 joinC (S := List Int) (R := List Int)
 (loopC (S := List Int × Int) (R := (List Int) ⊕ (List Int)) (F_part_bits_L4 i1) (([] : List Int), (IntKind.i64.wrap (i2 - 1))))
 (F_part_bits_J2)
def F_part_bits_sig : Sig := ⟨[.v false [.d (.int .i64)], .v false [.d (.int .i64)]], [(false, [.own 5 (.int .u8)])]⟩
def F_part_bits_ann : List (Nat × Ann) := [(2, ⟨3, [(5, false, [.own 5 (.int .u8)])], [], (List.range' 6 15), []⟩), (4, ⟨5, [(5, false, [.own 5 (.int .u8)]), (6, false, [.d (.int .i64)])], [], (List.range' 9 12), []⟩)]
noncomputable def F_part_bits_env : Env := ⟨Tryz.prog, [], []⟩
theorem F_part_bits_text : pvFn F_part_bits_env F_part_bits_ann Tryz.f117 F_part_bits_sig = F_part_bits := by kernel_rfl
noncomputable def F_part_Settings_L4 (l1 : List (Int × Int)) (s : Int × Int × Int × Int × List Int × Int × Int × Int × List Int) : Option (((Int × Int × Int × List Int) ⊕ (Int × Int × Int × List Int × Int × Int × Int × List Int)) ⊕ (Int × Int × Int × Int × List Int × Int × Int × Int × List Int)) :=
 let i4 := s.1; let i5 := s.2.1; let i6 := s.2.2.1; let i7 := s.2.2.2.1; let l8 := s.2.2.2.2.1; let i9 := s.2.2.2.2.2.1; let i10 := s.2.2.2.2.2.2.1; let i11 := s.2.2.2.2.2.2.2.1; let l12 := s.2.2.2.2.2.2.2.2
 cond (decide (i4 < (l1.length : Int)))
 ((getI l1 i4).bind fun x13 =>
 (F_part_bits x13.1 2).bind fun l14 =>
 chk (decide ((l12.length + l14.length) * 1 ≤ 140737488355328) && decide (l12.length + l14.length ≤ maxLen))
 ((F_part_bits x13.2 4).bind fun l15 =>
 chk (decide (((l12 ++ l14).length + l15.length) * 1 ≤ 140737488355328) && decide ((l12 ++ l14).length + l15.length ≤ maxLen))
 (some (.inr ((IntKind.i64.wrap (i4 + 1)), i5, i6, i7, l8, i9, i10, i11, ((l12 ++ l14) ++ l15))))))
 (some (.inl (.inr (i5, i6, i7, l8, i9, i10, i11, l12))))
noncomputable def F_part_Settings_J2 (s : Int × Int × Int × List Int × Int × Int × Int × List Int) : Option (Int × Int × Int × List Int) :=
 let i16 := s.1; let i17 := s.2.1; let i18 := s.2.2.1; let l19 := s.2.2.2.1; let i20 := s.2.2.2.2.1; let i21 := s.2.2.2.2.2.1; let i22 := s.2.2.2.2.2.2.1; let l23 := s.2.2.2.2.2.2.2
 some (i20, i21, i22, l23)
noncomputable def F_part_Settings (l1 : List (Int × Int)) (b2 : Bool) : Option (Int × Int × Int × List Int) :=
 (F_part_flag b2 1).bind fun i3 =>
 joinC (S := Int × Int × Int × List Int × Int × Int × Int × List Int) (R := Int × Int × Int × List Int)
 (loopC (S := Int × Int × Int × Int × List Int × Int × Int × Int × List Int) (R := (Int × Int × Int × List Int) ⊕ (Int × Int × Int × List Int × Int × Int × Int × List Int)) (F_part_Settings_L4 l1) (0, 0, 0, 0, ([] : List Int), 4, i3, 0, ([] : List Int)))
 (F_part_Settings_J2)
def F_part_Settings_sig : Sig := ⟨[.v false [.d (.sl (.pr (.int .i64) (.int .i64)))], .v false [.d .bool]], [(true, [.d (.int .i64), .d (.int .i64), .d (.int .i64), .own 5 (.int .u8)])]⟩
def F_part_Settings_ann : List (Nat × Ann) := [(2, ⟨3, [], [(4, [.d (.int .i64), .d (.int .i64), .d (.int .i64), .own 5 (.int .u8)]), (5, [.d (.int .i64), .d (.int .i64), .d (.int .i64), .own 5 (.int .u8)])], ([7] ++ List.range' 11 18), []⟩), (4, ⟨5, [(13, false, [.d (.int .i64)])], [(4, [.d (.int .i64), .d (.int .i64), .d (.int .i64), .own 5 (.int .u8)]), (5, [.d (.int .i64), .d (.int .i64), .d (.int .i64), .own 5 (.int .u8)])], ([7] ++ List.range' 14 15), []⟩)]
noncomputable def F_part_Settings_env : Env := ⟨Tryz.prog, [(116, ⟨F_part_flag_sig, ⟨F_part_flag⟩⟩), (117, ⟨F_part_bits_sig, ⟨F_part_bits⟩⟩)], []⟩
theorem F_part_Settings_text : pvFn F_part_Settings_env F_part_Settings_ann Tryz.f81 F_part_Settings_sig = F_part_Settings := by kernel_rfl
noncomputable def F_tale_Hello : Option (List Int) :=
 (F_part_Settings ([] : List (Int × Int)) false).bind fun x1 =>
 (F_tale_put x1.1 x1.2.1 x1.2.2.1 x1.2.2.2).bind fun l2 =>
 (F_slices_Concat_byte_byte ([([80, 82, 73, 32, 42, 32, 72, 84, 84, 80, 47, 50, 46, 48, 13, 10, 13, 10, 83, 77, 13, 10, 13, 10] : List Int), l2] : List (List Int))).bind fun l3 =>
 some l3
def F_tale_Hello_sig : Sig := ⟨[], [(false, [.own 5 (.int .u8)])]⟩
def F_tale_Hello_ann : List (Nat × Ann) := []
noncomputable def F_tale_Hello_env : Env := ⟨Tryz.prog, [(45, ⟨F_slices_Concat_byte_byte_sig, ⟨F_slices_Concat_byte_byte⟩⟩), (50, ⟨F_tale_put_sig, ⟨F_tale_put⟩⟩), (81, ⟨F_part_Settings_sig, ⟨F_part_Settings⟩⟩)], []⟩
theorem F_tale_Hello_text : pvFn F_tale_Hello_env F_tale_Hello_ann Tryz.f40 F_tale_Hello_sig = F_tale_Hello := by kernel_rfl
noncomputable def F_tale_answers_L4 (i1 : Int) (i2 : Int) (s : List (List Int) × Int) : Option (((List (List Int)) ⊕ (List (List Int))) ⊕ (List (List Int) × Int)) :=
 let l3 := s.1; let i4 := s.2
 cond (decide (i4 < (Int.tmod i2 4)))
 (cond ((Int.tmod i1 2) == 1)
 (chk (decide ((l3.length + ([([10, 0, 0, (IntKind.u8.wrap (IntKind.i64.wrap (1 + i4)))] : List Int)] : List (List Int)).length) * 16 ≤ 140737488355328) && decide (l3.length + ([([10, 0, 0, (IntKind.u8.wrap (IntKind.i64.wrap (1 + i4)))] : List Int)] : List (List Int)).length ≤ maxLen))
 (some (.inr ((l3 ++ ([([10, 0, 0, (IntKind.u8.wrap (IntKind.i64.wrap (1 + i4)))] : List Int)] : List (List Int))), (IntKind.i64.wrap (i4 + 1))))))
 (chk (decide ((l3.length + ([([192, 0, 2, (IntKind.u8.wrap (IntKind.i64.wrap (1 + i4)))] : List Int)] : List (List Int)).length) * 16 ≤ 140737488355328) && decide (l3.length + ([([192, 0, 2, (IntKind.u8.wrap (IntKind.i64.wrap (1 + i4)))] : List Int)] : List (List Int)).length ≤ maxLen))
 (some (.inr ((l3 ++ ([([192, 0, 2, (IntKind.u8.wrap (IntKind.i64.wrap (1 + i4)))] : List Int)] : List (List Int))), (IntKind.i64.wrap (i4 + 1)))))))
 (some (.inl (.inr l3)))
noncomputable def F_tale_answers_J2 (s : List (List Int)) : Option (List (List Int)) :=
 let l5 := s
 some l5
noncomputable def F_tale_answers (i1 : Int) (i2 : Int) : Option (List (List Int)) :=
 joinC (S := List (List Int)) (R := List (List Int))
 (loopC (S := List (List Int) × Int) (R := (List (List Int)) ⊕ (List (List Int))) (F_tale_answers_L4 i1 i2) (([] : List (List Int)), 0))
 (F_tale_answers_J2)
def F_tale_answers_sig : Sig := ⟨[.v false [.d (.int .i64)], .v false [.d (.int .i64)]], [(false, [.own 9 .str])]⟩
def F_tale_answers_ann : List (Nat × Ann) := [(2, ⟨3, [(5, false, [.own 9 .str])], [], (List.range' 6 24), []⟩), (4, ⟨5, [(5, false, [.own 9 .str]), (10, false, [.d (.int .i64)])], [], ([6, 7] ++ List.range' 11 19), []⟩)]
noncomputable def F_tale_answers_env : Env := ⟨Tryz.prog, [], []⟩
theorem F_tale_answers_text : pvFn F_tale_answers_env F_tale_answers_ann Tryz.f118 F_tale_answers_sig = F_tale_answers := by kernel_rfl
noncomputable def F_tale_bytes (i1 : Int) (i2 : Int) : Option (List Int) :=
 (F_slices_Repeat_byte_byte ([(IntKind.u8.wrap i2)] : List Int) i1).bind fun l3 =>
 some l3
def F_tale_bytes_sig : Sig := ⟨[.v false [.d (.int .i64)], .v false [.d (.int .i64)]], [(false, [.own 5 (.int .u8)])]⟩
def F_tale_bytes_ann : List (Nat × Ann) := []
noncomputable def F_tale_bytes_env : Env := ⟨Tryz.prog, [(154, ⟨F_slices_Repeat_byte_byte_sig, ⟨F_slices_Repeat_byte_byte⟩⟩)], []⟩
theorem F_tale_bytes_text : pvFn F_tale_bytes_env F_tale_bytes_ann Tryz.f119 F_tale_bytes_sig = F_tale_bytes := by kernel_rfl
noncomputable def F_pint_ones (i1 : Int) : Option (Int) :=
 cond ((decide (i1 < 1)) || (decide (i1 > 8)))
 (some 0)
 (chk (decide (0 ≤ i1))
 (some (IntKind.i64.wrap ((IntKind.i64.wrap (1 * 2 ^ (min (i1).toNat 64))) - 1))))
def F_pint_ones_sig : Sig := ⟨[.v false [.d (.int .i64)]], [(false, [.d (.int .i64)])]⟩
def F_pint_ones_ann : List (Nat × Ann) := []
noncomputable def F_pint_ones_env : Env := ⟨Tryz.prog, [], []⟩
theorem F_pint_ones_text : pvFn F_pint_ones_env F_pint_ones_ann Tryz.f128 F_pint_ones_sig = F_pint_ones := by kernel_rfl
noncomputable def F_pint_Put_G1_0 (s : Int × List Int) : Option ((List Int × Int) ⊕ (Nat × Int × List Int)) :=
 let i5 := s.1; let l6 := s.2
 cond (decide (i5 < 128))
 (chk (decide ((l6.length + ([(IntKind.u8.wrap i5)] : List Int).length) * 1 ≤ 140737488355328) && decide (l6.length + ([(IntKind.u8.wrap i5)] : List Int).length ≤ maxLen))
 (some (.inl ((l6 ++ ([(IntKind.u8.wrap i5)] : List Int)), 0))))
 (chk (decide ((l6.length + ([(IntKind.u8.wrap (bits .or .i64 (Int.tmod i5 128) 128))] : List Int).length) * 1 ≤ 140737488355328) && decide (l6.length + ([(IntKind.u8.wrap (bits .or .i64 (Int.tmod i5 128) 128))] : List Int).length ≤ maxLen))
 (some (.inr (0, ((IntKind.i64.wrap (Int.tdiv i5 128)), (l6 ++ ([(IntKind.u8.wrap (bits .or .i64 (Int.tmod i5 128) 128))] : List Int)))))))
noncomputable def F_pint_Put_G1 (p : Nat × Int × List Int) : Option ((List Int × Int) ⊕ (Nat × Int × List Int)) :=
 cond (hasN [0] p.1) (F_pint_Put_G1_0 p.2) (none)
noncomputable def F_pint_Put (i1 : Int) (i2 : Int) (i3 : Int) : Option (List Int × Int) :=
 joinC (S := Nat × Int × List Int) (R := List Int × Int)
 ((F_pint_ones i2).bind fun i4 =>
 cond (((i4 == 0) || (decide (i3 < 0))) || (decide (i3 > 2147483647)))
 (some (.inl (([] : List Int), 1)))
 (cond (decide (i3 < i4))
 (some (.inl (([(bits .or .u8 (bits .andNot .u8 i1 (IntKind.u8.wrap i4)) (IntKind.u8.wrap i3))] : List Int), 0)))
 (cond (decide ((IntKind.i64.wrap (i3 - i4)) < 128))
 (chk (decide ((([(bits .or .u8 (bits .andNot .u8 i1 (IntKind.u8.wrap i4)) (IntKind.u8.wrap i4))] : List Int).length + ([(IntKind.u8.wrap (IntKind.i64.wrap (i3 - i4)))] : List Int).length) * 1 ≤ 140737488355328) && decide (([(bits .or .u8 (bits .andNot .u8 i1 (IntKind.u8.wrap i4)) (IntKind.u8.wrap i4))] : List Int).length + ([(IntKind.u8.wrap (IntKind.i64.wrap (i3 - i4)))] : List Int).length ≤ maxLen))
 (some (.inl ((([(bits .or .u8 (bits .andNot .u8 i1 (IntKind.u8.wrap i4)) (IntKind.u8.wrap i4))] : List Int) ++ ([(IntKind.u8.wrap (IntKind.i64.wrap (i3 - i4)))] : List Int)), 0))))
 (chk (decide ((([(bits .or .u8 (bits .andNot .u8 i1 (IntKind.u8.wrap i4)) (IntKind.u8.wrap i4))] : List Int).length + ([(IntKind.u8.wrap (bits .or .i64 (Int.tmod (IntKind.i64.wrap (i3 - i4)) 128) 128))] : List Int).length) * 1 ≤ 140737488355328) && decide (([(bits .or .u8 (bits .andNot .u8 i1 (IntKind.u8.wrap i4)) (IntKind.u8.wrap i4))] : List Int).length + ([(IntKind.u8.wrap (bits .or .i64 (Int.tmod (IntKind.i64.wrap (i3 - i4)) 128) 128))] : List Int).length ≤ maxLen))
 (some (.inr (0, ((IntKind.i64.wrap (Int.tdiv (IntKind.i64.wrap (i3 - i4)) 128)), (([(bits .or .u8 (bits .andNot .u8 i1 (IntKind.u8.wrap i4)) (IntKind.u8.wrap i4))] : List Int) ++ ([(IntKind.u8.wrap (bits .or .i64 (Int.tmod (IntKind.i64.wrap (i3 - i4)) 128) 128))] : List Int))))))))))
 (fun p => loopC (S := Nat × Int × List Int) (R := List Int × Int) (F_pint_Put_G1) p)
def F_pint_Put_sig : Sig := ⟨[.v false [.d (.int .u8)], .v false [.d (.int .i64)], .v false [.d (.int .i64)]], [(false, [.own 5 (.int .u8)]), (false, [.d (.int .i64)])]⟩
def F_pint_Put_ann : List (Nat × Ann) := [(1, ⟨2, [(2, false, [.d (.int .i64)]), (10, false, [.own 5 (.int .u8)])], [], ([6, 7, 8, 9] ++ List.range' 11 48), []⟩)]
noncomputable def F_pint_Put_env : Env := ⟨Tryz.prog, [(128, ⟨F_pint_ones_sig, ⟨F_pint_ones⟩⟩)], []⟩
theorem F_pint_Put_text : pvFn F_pint_Put_env F_pint_Put_ann Tryz.f90 F_pint_Put_sig = F_pint_Put := by kernel_rfl
noncomputable def F_tale_text (s1 : List Int) : Option (List Int) :=
 (F_pint_Put 0 7 (s1.length : Int)).bind fun x2 =>
 chk (decide ((x2.1.length + s1.length) * 1 ≤ 140737488355328) && decide (x2.1.length + s1.length ≤ maxLen))
 (some (x2.1 ++ s1))
def F_tale_text_sig : Sig := ⟨[.v false [.d .str]], [(false, [.own 5 (.int .u8)])]⟩
def F_tale_text_ann : List (Nat × Ann) := []
noncomputable def F_tale_text_env : Env := ⟨Tryz.prog, [(90, ⟨F_pint_Put_sig, ⟨F_pint_Put⟩⟩)], []⟩
theorem F_tale_text_text : pvFn F_tale_text_env F_tale_text_ann Tryz.f46 F_tale_text_sig = F_tale_text := by kernel_rfl
noncomputable def F_tale_Block_L4 (l1 : List (List Int × List Int × Bool)) (s : List Int × Int) : Option (((List Int) ⊕ (List Int)) ⊕ (List Int × Int)) :=
 let l2 := s.1; let i3 := s.2
 cond (decide (i3 < (l1.length : Int)))
 ((getI l1 i3).bind fun x4 =>
 (F_tale_text x4.1).bind fun l5 =>
 (F_tale_text x4.2.1).bind fun l6 =>
 (F_slices_Concat_byte_byte ([l2, ([0] : List Int), l5, l6] : List (List Int))).bind fun l7 =>
 some (.inr (l7, (IntKind.i64.wrap (i3 + 1)))))
 (some (.inl (.inr l2)))
noncomputable def F_tale_Block_J2 (s : List Int) : Option (List Int) :=
 let l8 := s
 some l8
noncomputable def F_tale_Block (l1 : List (List Int × List Int × Bool)) : Option (List Int) :=
 joinC (S := List Int) (R := List Int)
 (loopC (S := List Int × Int) (R := (List Int) ⊕ (List Int)) (F_tale_Block_L4 l1) (([] : List Int), 0))
 (F_tale_Block_J2)
def F_tale_Block_sig : Sig := ⟨[.v false [.d (.sl (.pr .str (.pr .str .bool)))]], [(false, [.own 5 (.int .u8)])]⟩
def F_tale_Block_ann : List (Nat × Ann) := [(2, ⟨3, [(3, false, [.own 5 (.int .u8)])], [], (List.range' 5 18), []⟩), (4, ⟨5, [(3, false, [.own 5 (.int .u8)]), (8, false, [.d (.int .i64)])], [], ([5] ++ List.range' 9 14), []⟩)]
noncomputable def F_tale_Block_env : Env := ⟨Tryz.prog, [(45, ⟨F_slices_Concat_byte_byte_sig, ⟨F_slices_Concat_byte_byte⟩⟩), (46, ⟨F_tale_text_sig, ⟨F_tale_text⟩⟩)], []⟩
theorem F_tale_Block_text : pvFn F_tale_Block_env F_tale_Block_ann Tryz.f16 F_tale_Block_sig = F_tale_Block := by kernel_rfl
noncomputable def F_tale_flags (i1 : Int) (b2 : Bool) : Option (Int) :=
 cond b2
 (some (bits .or .i64 i1 1))
 (some i1)
def F_tale_flags_sig : Sig := ⟨[.v false [.d (.int .i64)], .v false [.d .bool]], [(false, [.d (.int .i64)])]⟩
def F_tale_flags_ann : List (Nat × Ann) := []
noncomputable def F_tale_flags_env : Env := ⟨Tryz.prog, [], []⟩
theorem F_tale_flags_text : pvFn F_tale_flags_env F_tale_flags_ann Tryz.f51 F_tale_flags_sig = F_tale_flags := by kernel_rfl
noncomputable def F_tale_Connect (i1 : Int) (s2 : List Int) (s3 : List Int) (s4 : List Int) (b5 : Bool) : Option (List Int) :=
 cond ((!(s3 == ([] : List Int))) || (!(s4 == ([] : List Int))))
 (chk (Nat.ble (s3.length + ([58] : List Int).length) maxLen)
 (chk (Nat.ble ((s3 ++ ([58] : List Int)).length + s4.length) maxLen)
 ((F_b64_Encode ((s3 ++ ([58] : List Int)) ++ s4)).bind fun s6 =>
 chk (Nat.ble (([66, 97, 115, 105, 99, 32] : List Int).length + s6.length) maxLen)
 (chk (decide ((([(([58, 109, 101, 116, 104, 111, 100] : List Int), ([67, 79, 78, 78, 69, 67, 84] : List Int), false), (([58, 97, 117, 116, 104, 111, 114, 105, 116, 121] : List Int), s2, false)] : List (List Int × List Int × Bool)).length + ([(([112, 114, 111, 120, 121, 45, 97, 117, 116, 104, 111, 114, 105, 122, 97, 116, 105, 111, 110] : List Int), (([66, 97, 115, 105, 99, 32] : List Int) ++ s6), false)] : List (List Int × List Int × Bool)).length) * 40 ≤ 140737488355328) && decide (([(([58, 109, 101, 116, 104, 111, 100] : List Int), ([67, 79, 78, 78, 69, 67, 84] : List Int), false), (([58, 97, 117, 116, 104, 111, 114, 105, 116, 121] : List Int), s2, false)] : List (List Int × List Int × Bool)).length + ([(([112, 114, 111, 120, 121, 45, 97, 117, 116, 104, 111, 114, 105, 122, 97, 116, 105, 111, 110] : List Int), (([66, 97, 115, 105, 99, 32] : List Int) ++ s6), false)] : List (List Int × List Int × Bool)).length ≤ maxLen))
 ((F_tale_flags 4 b5).bind fun i7 =>
 (F_tale_Block (([(([58, 109, 101, 116, 104, 111, 100] : List Int), ([67, 79, 78, 78, 69, 67, 84] : List Int), false), (([58, 97, 117, 116, 104, 111, 114, 105, 116, 121] : List Int), s2, false)] : List (List Int × List Int × Bool)) ++ ([(([112, 114, 111, 120, 121, 45, 97, 117, 116, 104, 111, 114, 105, 122, 97, 116, 105, 111, 110] : List Int), (([66, 97, 115, 105, 99, 32] : List Int) ++ s6), false)] : List (List Int × List Int × Bool)))).bind fun l8 =>
 (F_tale_put 1 i7 i1 l8).bind fun l9 =>
 some l9)))))
 ((F_tale_flags 4 b5).bind fun i10 =>
 (F_tale_Block ([(([58, 109, 101, 116, 104, 111, 100] : List Int), ([67, 79, 78, 78, 69, 67, 84] : List Int), false), (([58, 97, 117, 116, 104, 111, 114, 105, 116, 121] : List Int), s2, false)] : List (List Int × List Int × Bool))).bind fun l11 =>
 (F_tale_put 1 i10 i1 l11).bind fun l12 =>
 some l12)
def F_tale_Connect_sig : Sig := ⟨[.v false [.d (.int .i64)], .v false [.d .str], .v false [.d .str], .v false [.d .str], .v false [.d .bool]], [(false, [.own 5 (.int .u8)])]⟩
def F_tale_Connect_ann : List (Nat × Ann) := []
noncomputable def F_tale_Connect_env : Env := ⟨Tryz.prog, [(16, ⟨F_tale_Block_sig, ⟨F_tale_Block⟩⟩), (49, ⟨F_b64_Encode_sig, ⟨F_b64_Encode⟩⟩), (50, ⟨F_tale_put_sig, ⟨F_tale_put⟩⟩), (51, ⟨F_tale_flags_sig, ⟨F_tale_flags⟩⟩)], []⟩
theorem F_tale_Connect_text : pvFn F_tale_Connect_env F_tale_Connect_ann Tryz.f22 F_tale_Connect_sig = F_tale_Connect := by kernel_rfl
noncomputable def F_tale_connects (i1 : Int) (i2 : Int) (i3 : Int) : Option (List Int) :=
 (F_strconv_Itoa (Int.tmod (IntKind.i64.wrap (Int.tdiv i2 8)) 3)).bind fun s4 =>
 chk (Nat.ble (([119] : List Int).length + s4.length) maxLen)
 (cond ((IntKind.i64.wrap (Int.tdiv i3 64)) == 3)
 ((getI ([([97, 46, 101, 120, 97, 109, 112, 108, 101, 58, 56, 48] : List Int), ([98, 46, 101, 120, 97, 109, 112, 108, 101, 58, 52, 52, 51] : List Int), ([49, 57, 50, 46, 48, 46, 50, 46, 55, 58, 50, 53] : List Int), ([98, 97, 100, 46, 101, 120, 97, 109, 112, 108, 101, 58, 56, 48] : List Int), ([49, 48, 46, 49, 46, 50, 46, 51, 58, 56, 48] : List Int), ([91, 50, 48, 48, 49, 58, 100, 98, 56, 58, 58, 49, 93, 58, 50, 48, 48, 48] : List Int)] : List (List Int)) (Int.tmod i3 6)).bind fun s5 =>
 chk (Nat.ble (([117] : List Int).length + s4.length) maxLen)
 ((F_tale_Connect (IntKind.i64.wrap (1 + (IntKind.i64.wrap (2 * (Int.tmod i2 8))))) s5 (([117] : List Int) ++ s4) ([110, 111] : List Int) ((Int.tmod (IntKind.i64.wrap (Int.tdiv i3 32)) 2) == 1)).bind fun l6 =>
 some l6))
 ((getI ([([97, 46, 101, 120, 97, 109, 112, 108, 101, 58, 56, 48] : List Int), ([98, 46, 101, 120, 97, 109, 112, 108, 101, 58, 52, 52, 51] : List Int), ([49, 57, 50, 46, 48, 46, 50, 46, 55, 58, 50, 53] : List Int), ([98, 97, 100, 46, 101, 120, 97, 109, 112, 108, 101, 58, 56, 48] : List Int), ([49, 48, 46, 49, 46, 50, 46, 51, 58, 56, 48] : List Int), ([91, 50, 48, 48, 49, 58, 100, 98, 56, 58, 58, 49, 93, 58, 50, 48, 48, 48] : List Int)] : List (List Int)) (Int.tmod i3 6)).bind fun s7 =>
 chk (Nat.ble (([117] : List Int).length + s4.length) maxLen)
 ((F_tale_Connect (IntKind.i64.wrap (1 + (IntKind.i64.wrap (2 * (Int.tmod i2 8))))) s7 (([117] : List Int) ++ s4) (([119] : List Int) ++ s4) ((Int.tmod (IntKind.i64.wrap (Int.tdiv i3 32)) 2) == 1)).bind fun l8 =>
 some l8)))
def F_tale_connects_sig : Sig := ⟨[.v false [.d (.int .i64)], .v false [.d (.int .i64)], .v false [.d (.int .i64)]], [(false, [.own 5 (.int .u8)])]⟩
def F_tale_connects_ann : List (Nat × Ann) := []
noncomputable def F_tale_connects_env : Env := ⟨Tryz.prog, [(22, ⟨F_tale_Connect_sig, ⟨F_tale_Connect⟩⟩), (67, ⟨F_strconv_Itoa_sig, ⟨F_strconv_Itoa⟩⟩)], []⟩
theorem F_tale_connects_text : pvFn F_tale_connects_env F_tale_connects_ann Tryz.f155 F_tale_connects_sig = F_tale_connects := by kernel_rfl
noncomputable def F_tale_Data (i1 : Int) (l2 : List Int) (b3 : Bool) : Option (List Int) :=
 (F_tale_flags 0 b3).bind fun i4 =>
 (F_tale_put 0 i4 i1 l2).bind fun l5 =>
 some l5
def F_tale_Data_sig : Sig := ⟨[.v false [.d (.int .i64)], .v false [.d (.sl (.int .u8))], .v false [.d .bool]], [(false, [.own 5 (.int .u8)])]⟩
def F_tale_Data_ann : List (Nat × Ann) := []
noncomputable def F_tale_Data_env : Env := ⟨Tryz.prog, [(50, ⟨F_tale_put_sig, ⟨F_tale_put⟩⟩), (51, ⟨F_tale_flags_sig, ⟨F_tale_flags⟩⟩)], []⟩
theorem F_tale_Data_text : pvFn F_tale_Data_env F_tale_Data_ann Tryz.f156 F_tale_Data_sig = F_tale_Data := by kernel_rfl
noncomputable def F_part_Rst (i1 : Int) (i2 : Int) : Option (Int × Int × Int × List Int) :=
 (F_part_bits i2 4).bind fun l3 =>
 some (3, 0, i1, l3)
def F_part_Rst_sig : Sig := ⟨[.v false [.d (.int .i64)], .v false [.d (.int .i64)]], [(true, [.d (.int .i64), .d (.int .i64), .d (.int .i64), .own 5 (.int .u8)])]⟩
def F_part_Rst_ann : List (Nat × Ann) := []
noncomputable def F_part_Rst_env : Env := ⟨Tryz.prog, [(117, ⟨F_part_bits_sig, ⟨F_part_bits⟩⟩)], []⟩
theorem F_part_Rst_text : pvFn F_part_Rst_env F_part_Rst_ann Tryz.f157 F_part_Rst_sig = F_part_Rst := by kernel_rfl
noncomputable def F_part_Update (i1 : Int) (i2 : Int) : Option (Int × Int × Int × List Int) :=
 (F_part_bits (bits .and .i64 i2 2147483647) 4).bind fun l3 =>
 some (8, 0, i1, l3)
def F_part_Update_sig : Sig := ⟨[.v false [.d (.int .i64)], .v false [.d (.int .i64)]], [(true, [.d (.int .i64), .d (.int .i64), .d (.int .i64), .own 5 (.int .u8)])]⟩
def F_part_Update_ann : List (Nat × Ann) := []
noncomputable def F_part_Update_env : Env := ⟨Tryz.prog, [(117, ⟨F_part_bits_sig, ⟨F_part_bits⟩⟩)], []⟩
theorem F_part_Update_text : pvFn F_part_Update_env F_part_Update_ann Tryz.f158 F_part_Update_sig = F_part_Update := by kernel_rfl
noncomputable def F_tale_feeds (i1 : Int) (i2 : Int) (i3 : Int) (i4 : Int) : Option (List Int) :=
 cond (i1 == 1)
 ((F_tale_Hello).bind fun l5 =>
 some l5)
 (cond (i1 == 2)
 (cond (i1 == 2)
 ((F_tale_connects i2 i3 i4).bind fun l6 =>
 some l6)
 (cond (i1 == 4)
 (cond (i1 == 4)
 ((F_tale_bytes i4 i3).bind fun l7 =>
 (F_tale_Data (IntKind.i64.wrap (1 + (IntKind.i64.wrap (2 * (Int.tmod i3 8))))) l7 ((Int.tmod i4 7) == 0)).bind fun l8 =>
 some l8)
 (cond (i1 == 6)
 ((F_part_Rst (IntKind.i64.wrap (1 + (IntKind.i64.wrap (2 * (Int.tmod i3 8))))) 8).bind fun x9 =>
 (F_tale_put x9.1 x9.2.1 x9.2.2.1 x9.2.2.2).bind fun l10 =>
 some l10)
 (cond (i1 == 7)
 (cond ((Int.tmod i4 2) == 1)
 ((F_part_Update 0 (IntKind.i64.wrap (1 + (IntKind.i64.wrap (16 * i4))))).bind fun x11 =>
 (F_tale_put x11.1 x11.2.1 x11.2.2.1 x11.2.2.2).bind fun l12 =>
 some l12)
 ((F_part_Update (IntKind.i64.wrap (1 + (IntKind.i64.wrap (2 * (Int.tmod i3 8))))) (IntKind.i64.wrap (1 + (IntKind.i64.wrap (16 * i4))))).bind fun x13 =>
 (F_tale_put x13.1 x13.2.1 x13.2.2.1 x13.2.2.2).bind fun l14 =>
 some l14))
 (some ([(IntKind.u8.wrap i2), (IntKind.u8.wrap i3), (IntKind.u8.wrap i4)] : List Int)))))
 (cond (i1 == 5)
 ((F_tale_bytes i4 i3).bind fun l15 =>
 (F_tale_Data (IntKind.i64.wrap (1 + (IntKind.i64.wrap (2 * (Int.tmod i3 8))))) l15 ((Int.tmod i4 7) == 0)).bind fun l16 =>
 some l16)
 (cond (i1 == 6)
 ((F_part_Rst (IntKind.i64.wrap (1 + (IntKind.i64.wrap (2 * (Int.tmod i3 8))))) 8).bind fun x17 =>
 (F_tale_put x17.1 x17.2.1 x17.2.2.1 x17.2.2.2).bind fun l18 =>
 some l18)
 (cond (i1 == 7)
 (cond ((Int.tmod i4 2) == 1)
 ((F_part_Update 0 (IntKind.i64.wrap (1 + (IntKind.i64.wrap (16 * i4))))).bind fun x19 =>
 (F_tale_put x19.1 x19.2.1 x19.2.2.1 x19.2.2.2).bind fun l20 =>
 some l20)
 ((F_part_Update (IntKind.i64.wrap (1 + (IntKind.i64.wrap (2 * (Int.tmod i3 8))))) (IntKind.i64.wrap (1 + (IntKind.i64.wrap (16 * i4))))).bind fun x21 =>
 (F_tale_put x21.1 x21.2.1 x21.2.2.1 x21.2.2.2).bind fun l22 =>
 some l22))
 (some ([(IntKind.u8.wrap i2), (IntKind.u8.wrap i3), (IntKind.u8.wrap i4)] : List Int)))))))
 (cond (i1 == 3)
 ((F_tale_connects i2 i3 i4).bind fun l23 =>
 some l23)
 (cond (i1 == 4)
 (cond (i1 == 4)
 ((F_tale_bytes i4 i3).bind fun l24 =>
 (F_tale_Data (IntKind.i64.wrap (1 + (IntKind.i64.wrap (2 * (Int.tmod i3 8))))) l24 ((Int.tmod i4 7) == 0)).bind fun l25 =>
 some l25)
 (cond (i1 == 6)
 ((F_part_Rst (IntKind.i64.wrap (1 + (IntKind.i64.wrap (2 * (Int.tmod i3 8))))) 8).bind fun x26 =>
 (F_tale_put x26.1 x26.2.1 x26.2.2.1 x26.2.2.2).bind fun l27 =>
 some l27)
 (cond (i1 == 7)
 (cond ((Int.tmod i4 2) == 1)
 ((F_part_Update 0 (IntKind.i64.wrap (1 + (IntKind.i64.wrap (16 * i4))))).bind fun x28 =>
 (F_tale_put x28.1 x28.2.1 x28.2.2.1 x28.2.2.2).bind fun l29 =>
 some l29)
 ((F_part_Update (IntKind.i64.wrap (1 + (IntKind.i64.wrap (2 * (Int.tmod i3 8))))) (IntKind.i64.wrap (1 + (IntKind.i64.wrap (16 * i4))))).bind fun x30 =>
 (F_tale_put x30.1 x30.2.1 x30.2.2.1 x30.2.2.2).bind fun l31 =>
 some l31))
 (some ([(IntKind.u8.wrap i2), (IntKind.u8.wrap i3), (IntKind.u8.wrap i4)] : List Int)))))
 (cond (i1 == 5)
 ((F_tale_bytes i4 i3).bind fun l32 =>
 (F_tale_Data (IntKind.i64.wrap (1 + (IntKind.i64.wrap (2 * (Int.tmod i3 8))))) l32 ((Int.tmod i4 7) == 0)).bind fun l33 =>
 some l33)
 (cond (i1 == 6)
 ((F_part_Rst (IntKind.i64.wrap (1 + (IntKind.i64.wrap (2 * (Int.tmod i3 8))))) 8).bind fun x34 =>
 (F_tale_put x34.1 x34.2.1 x34.2.2.1 x34.2.2.2).bind fun l35 =>
 some l35)
 (cond (i1 == 7)
 (cond ((Int.tmod i4 2) == 1)
 ((F_part_Update 0 (IntKind.i64.wrap (1 + (IntKind.i64.wrap (16 * i4))))).bind fun x36 =>
 (F_tale_put x36.1 x36.2.1 x36.2.2.1 x36.2.2.2).bind fun l37 =>
 some l37)
 ((F_part_Update (IntKind.i64.wrap (1 + (IntKind.i64.wrap (2 * (Int.tmod i3 8))))) (IntKind.i64.wrap (1 + (IntKind.i64.wrap (16 * i4))))).bind fun x38 =>
 (F_tale_put x38.1 x38.2.1 x38.2.2.1 x38.2.2.2).bind fun l39 =>
 some l39))
 (some ([(IntKind.u8.wrap i2), (IntKind.u8.wrap i3), (IntKind.u8.wrap i4)] : List Int))))))))
def F_tale_feeds_sig : Sig := ⟨[.v false [.d (.int .i64)], .v false [.d (.int .i64)], .v false [.d (.int .i64)], .v false [.d (.int .i64)]], [(false, [.own 5 (.int .u8)])]⟩
def F_tale_feeds_ann : List (Nat × Ann) := []
noncomputable def F_tale_feeds_env : Env := ⟨Tryz.prog, [(40, ⟨F_tale_Hello_sig, ⟨F_tale_Hello⟩⟩), (50, ⟨F_tale_put_sig, ⟨F_tale_put⟩⟩), (119, ⟨F_tale_bytes_sig, ⟨F_tale_bytes⟩⟩), (155, ⟨F_tale_connects_sig, ⟨F_tale_connects⟩⟩), (156, ⟨F_tale_Data_sig, ⟨F_tale_Data⟩⟩), (157, ⟨F_part_Rst_sig, ⟨F_part_Rst⟩⟩), (158, ⟨F_part_Update_sig, ⟨F_part_Update⟩⟩)], []⟩
theorem F_tale_feeds_text : pvFn F_tale_feeds_env F_tale_feeds_ann Tryz.f120 F_tale_feeds_sig = F_tale_feeds := by kernel_rfl
noncomputable def F_tale_event (i1 : Int) (i2 : Int) (i3 : Int) (i4 : Int) : Option (Int × Int × Int × Int × List Int × List (List Int)) :=
 cond (i1 == 0)
 (some (2, 0, 0, 0, ([] : List Int), ([] : List (List Int))))
 (cond (i1 == 8)
 (some (5, (IntKind.i64.wrap (1 + (Int.tmod i2 3))), 0, (IntKind.i64.wrap (1 + (IntKind.i64.wrap (64 * i4)))), ([] : List Int), ([] : List (List Int))))
 (cond (i1 == 9)
 ((F_tale_answers i3 i4).bind fun l5 =>
 some (6, 0, (IntKind.i64.wrap (1 + (Int.tmod i2 8))), 0, ([] : List Int), l5))
 (cond (i1 == 10)
 (some (7, 0, (IntKind.i64.wrap (1 + (Int.tmod i2 8))), (minI (Int.tmod i3 4) 1), ([] : List Int), ([] : List (List Int))))
 (cond (i1 == 11)
 (some (8, 0, (IntKind.i64.wrap (1 + (Int.tmod i2 8))), (IntKind.i64.wrap (1 + (IntKind.i64.wrap (4 * i4)))), ([] : List Int), ([] : List (List Int))))
 (cond (i1 == 12)
 ((F_tale_bytes i4 i3).bind fun l6 =>
 some (9, 0, (IntKind.i64.wrap (1 + (Int.tmod i2 8))), 0, l6, ([] : List (List Int))))
 (cond ((i1 == 13) && ((Int.tmod i4 8) == 0))
 (some (11, 0, (IntKind.i64.wrap (1 + (Int.tmod i2 8))), 0, ([] : List Int), ([] : List (List Int))))
 (cond (i1 == 13)
 (some (10, 0, (IntKind.i64.wrap (1 + (Int.tmod i2 8))), 0, ([] : List Int), ([] : List (List Int))))
 (cond (i1 == 14)
 (some (1, 0, 0, (IntKind.i64.wrap (1 + i4)), ([] : List Int), ([] : List (List Int))))
 (cond ((i1 == 15) && ((Int.tmod i4 8) == 0))
 (some (4, (IntKind.i64.wrap (1 + (Int.tmod i2 3))), 0, 0, ([] : List Int), ([] : List (List Int))))
 (cond ((i1 == 15) && ((Int.tmod i4 8) == 1))
 (some (12, 0, 0, 0, ([] : List Int), ([] : List (List Int))))
 ((F_tale_feeds i1 i2 i3 i4).bind fun l7 =>
 some (3, (IntKind.i64.wrap (1 + (Int.tmod i2 3))), 0, 0, l7, ([] : List (List Int))))))))))))))
def F_tale_event_sig : Sig := ⟨[.v false [.d (.int .i64)], .v false [.d (.int .i64)], .v false [.d (.int .i64)], .v false [.d (.int .i64)]], [(true, [.d (.int .i64), .d (.int .i64), .d (.int .i64), .d (.int .i64), .own 5 (.int .u8), .own 9 .str])]⟩
def F_tale_event_ann : List (Nat × Ann) := []
noncomputable def F_tale_event_env : Env := ⟨Tryz.prog, [(118, ⟨F_tale_answers_sig, ⟨F_tale_answers⟩⟩), (119, ⟨F_tale_bytes_sig, ⟨F_tale_bytes⟩⟩), (120, ⟨F_tale_feeds_sig, ⟨F_tale_feeds⟩⟩)], []⟩
theorem F_tale_event_text : pvFn F_tale_event_env F_tale_event_ann Tryz.f82 F_tale_event_sig = F_tale_event := by kernel_rfl
noncomputable def F_tale_Events_L3 (s : List Int × List (Int × Int × Int × Int × List Int × List (List Int))) : Option (((List (Int × Int × Int × Int × List Int × List (List Int))) ⊕ (List (Int × Int × Int × Int × List Int × List (List Int)))) ⊕ (List Int × List (Int × Int × Int × Int × List Int × List (List Int)))) :=
 let l2 := s.1; let l3 := s.2
 cond ((decide ((l2.length : Int) ≥ 4)) && (decide ((l3.length : Int) < 300)))
 ((getI l2 0).bind fun i4 =>
 (getI l2 1).bind fun i5 =>
 (getI l2 2).bind fun i6 =>
 (getI l2 3).bind fun i7 =>
 (F_tale_event (Int.tmod (IntKind.i64.wrap i4) 16) (IntKind.i64.wrap i5) (IntKind.i64.wrap i6) (IntKind.i64.wrap i7)).bind fun x8 =>
 chk (decide ((l3.length + ([(x8.1, x8.2.1, x8.2.2.1, x8.2.2.2.1, x8.2.2.2.2.1, x8.2.2.2.2.2)] : List (Int × Int × Int × Int × List Int × List (List Int))).length) * 80 ≤ 140737488355328) && decide (l3.length + ([(x8.1, x8.2.1, x8.2.2.1, x8.2.2.2.1, x8.2.2.2.2.1, x8.2.2.2.2.2)] : List (Int × Int × Int × Int × List Int × List (List Int))).length ≤ maxLen))
 ((cutI l2 4 (l2.length : Int)).bind fun l9 =>
 some (.inr (l9, (l3 ++ ([(x8.1, x8.2.1, x8.2.2.1, x8.2.2.2.1, x8.2.2.2.2.1, x8.2.2.2.2.2)] : List (Int × Int × Int × Int × List Int × List (List Int))))))))
 (some (.inl (.inr l3)))
noncomputable def F_tale_Events_J2 (s : List (Int × Int × Int × Int × List Int × List (List Int))) : Option (List (Int × Int × Int × Int × List Int × List (List Int))) :=
 let l10 := s
 some l10
noncomputable def F_tale_Events (l1 : List Int) : Option (List (Int × Int × Int × Int × List Int × List (List Int))) :=
 joinC (S := List (Int × Int × Int × Int × List Int × List (List Int))) (R := List (Int × Int × Int × Int × List Int × List (List Int)))
 (loopC (S := List Int × List (Int × Int × Int × Int × List Int × List (List Int))) (R := (List (Int × Int × Int × Int × List Int × List (List Int))) ⊕ (List (Int × Int × Int × Int × List Int × List (List Int)))) (F_tale_Events_L3) (l1, ([] : List (Int × Int × Int × Int × List Int × List (List Int)))))
 (F_tale_Events_J2)
def F_tale_Events_sig : Sig := ⟨[.v false [.d (.sl (.int .u8))]], [(false, [.own 141 (.pr (.int .i64) (.pr (.int .i64) (.pr (.int .i64) (.pr (.int .i64) (.pr (.sl (.int .u8)) (.sl .str))))))])]⟩
def F_tale_Events_ann : List (Nat × Ann) := [(2, ⟨3, [(3, false, [.own 141 (.pr (.int .i64) (.pr (.int .i64) (.pr (.int .i64) (.pr (.int .i64) (.pr (.sl (.int .u8)) (.sl .str))))))])], [], ([0] ++ List.range' 4 31), []⟩), (3, ⟨4, [(0, false, [.d (.sl (.int .u8))]), (3, false, [.own 141 (.pr (.int .i64) (.pr (.int .i64) (.pr (.int .i64) (.pr (.int .i64) (.pr (.sl (.int .u8)) (.sl .str))))))])], [], (List.range' 4 31), []⟩)]
noncomputable def F_tale_Events_env : Env := ⟨Tryz.prog, [(82, ⟨F_tale_event_sig, ⟨F_tale_event⟩⟩)], []⟩
theorem F_tale_Events_text : pvFn F_tale_Events_env F_tale_Events_ann Tryz.f41 F_tale_Events_sig = F_tale_Events := by kernel_rfl
noncomputable def F_wlvlaw28_first : Option (Bool) :=
 (F_tale_Hello).bind fun l1 =>
 cond ((l1.length : Int) == 33)
 ((F_tale_Events ([0, 0, 0] : List Int)).bind fun l2 =>
 some ((l2.length : Int) == 0))
 (some false)
def F_wlvlaw28_first_sig : Sig := ⟨[], [(false, [.d .bool])]⟩
def F_wlvlaw28_first_ann : List (Nat × Ann) := []
noncomputable def F_wlvlaw28_first_env : Env := ⟨Tryz.prog, [(40, ⟨F_tale_Hello_sig, ⟨F_tale_Hello⟩⟩), (41, ⟨F_tale_Events_sig, ⟨F_tale_Events⟩⟩)], []⟩
theorem F_wlvlaw28_first_text : pvFn F_wlvlaw28_first_env F_wlvlaw28_first_ann Tryz.f12 F_wlvlaw28_first_sig = F_wlvlaw28_first := by kernel_rfl
noncomputable def F_wlvref_Bytes (l1 : List Int) (l2 : List Int) : Option (Bool) :=
 some (l1 == l2)
def F_wlvref_Bytes_sig : Sig := ⟨[.v false [.d (.sl (.int .u8))], .v false [.d (.sl (.int .u8))]], [(false, [.d .bool])]⟩
def F_wlvref_Bytes_ann : List (Nat × Ann) := []
noncomputable def F_wlvref_Bytes_env : Env := ⟨Tryz.prog, [], []⟩
theorem F_wlvref_Bytes_text : pvFn F_wlvref_Bytes_env F_wlvref_Bytes_ann Tryz.f104 F_wlvref_Bytes_sig = F_wlvref_Bytes := by kernel_rfl
noncomputable def F_wlvref18_sameUser_L6 (l6 : List RuleD) (l12 : List RuleD) (s : Int) : Option (((Bool) ⊕ (Unit)) ⊕ (Int)) :=
 let i15 := s
 cond (decide (i15 < (l6.length : Int)))
 ((getI l6 i15).bind fun x16 =>
 (getI l12 i15).bind fun x17 =>
 cond (!((bEq x16.1 x17.1) && ((eqI x16.2.1 x17.2.1) && ((eqL x16.2.2.1 x17.2.2.1) && (((eqL x16.2.2.2.1.1 x17.2.2.2.1.1) && ((eqI x16.2.2.2.1.2 x17.2.2.2.1.2) && true)) && ((eqI x16.2.2.2.2.1 x17.2.2.2.2.1) && ((eqI x16.2.2.2.2.2 x17.2.2.2.2.2) && true)))))))
 (some (.inl (.inl false)))
 (some (.inr (IntKind.i64.wrap (i15 + 1)))))
 (some (.inl (.inr ())))
noncomputable def F_wlvref18_sameUser_J4 (s : Unit) : Option (Bool) :=
 some true
noncomputable def F_wlvref18_sameUser (s1 : List Int) (l2 : List Int) (l3 : List Int) (i4 : Int) (z5 : (Nat × Nat)) (l6 : List RuleD) (s7 : List Int) (l8 : List Int) (l9 : List Int) (i10 : Int) (z11 : (Nat × Nat)) (l12 : List RuleD) : Option (Bool) :=
 cond (!(s1 == s7))
 (some false)
 ((F_wlvref_Bytes l2 l8).bind fun b13 =>
 cond (!b13)
 (some false)
 ((F_wlvref_Bytes l3 l9).bind fun b14 =>
 cond (!b14)
 (some false)
 (cond (i4 != i10)
 (some false)
 (cond (!(feq .f64 z5.1 z11.1 && feq .f64 z5.2 z11.2))
 (some false)
 (cond ((l6.length : Int) != (l12.length : Int))
 (some false)
 (joinC (S := Unit) (R := Bool)
 (loopC (S := Int) (R := (Bool) ⊕ (Unit)) (F_wlvref18_sameUser_L6 l6 l12) 0)
 (F_wlvref18_sameUser_J4)))))))
def F_wlvref18_sameUser_sig : Sig := ⟨[.v true [.d .str, .d (.sl (.int .u8)), .d (.sl (.int .u8)), .d (.int .i64), .d (.cpx .f64), .d (.sl (.pr .bool (.pr (.int .i64) (.pr .str (.pr (.pr .str (.int .i64)) (.pr (.int .i64) (.int .i64)))))))], .v true [.d .str, .d (.sl (.int .u8)), .d (.sl (.int .u8)), .d (.int .i64), .d (.cpx .f64), .d (.sl (.pr .bool (.pr (.int .i64) (.pr .str (.pr (.pr .str (.int .i64)) (.pr (.int .i64) (.int .i64)))))))]], [(false, [.d .bool])]⟩
def F_wlvref18_sameUser_ann : List (Nat × Ann) := [(4, ⟨5, [], [], ([4, 5] ++ List.range' 54 18), []⟩), (6, ⟨7, [(5, false, [.d (.int .i64)])], [], ([4] ++ List.range' 54 18), [2, 3]⟩)]
noncomputable def F_wlvref18_sameUser_env : Env := ⟨Tryz.prog, [(104, ⟨F_wlvref_Bytes_sig, ⟨F_wlvref_Bytes⟩⟩)], []⟩
theorem F_wlvref18_sameUser_text : pvFn F_wlvref18_sameUser_env F_wlvref18_sameUser_ann Tryz.f59 F_wlvref18_sameUser_sig = F_wlvref18_sameUser := by kernel_rfl
noncomputable def F_wlvref18_Same_L6 (l8 : List UserD) (l16 : List UserD) (s : Int) : Option (((Bool) ⊕ (Unit)) ⊕ (Int)) :=
 let i17 := s
 cond (decide (i17 < (l8.length : Int)))
 ((getI l8 i17).bind fun x18 =>
 (getI l16 i17).bind fun x19 =>
 (F_wlvref18_sameUser x18.1 x18.2.1.1 x18.2.1.2 x18.2.2.1 x18.2.2.2.1 x18.2.2.2.2 x19.1 x19.2.1.1 x19.2.1.2 x19.2.2.1 x19.2.2.2.1 x19.2.2.2.2).bind fun b20 =>
 cond (!b20)
 (some (.inl (.inl false)))
 (some (.inr (IntKind.i64.wrap (i17 + 1)))))
 (some (.inl (.inr ())))
noncomputable def F_wlvref18_Same_J4 (s : Unit) : Option (Bool) :=
 some true
noncomputable def F_wlvref18_Same (i1 : Int) (i2 : Int) (i3 : Int) (i4 : Int) (i5 : Int) (i6 : Int) (i7 : Int) (l8 : List UserD) (i9 : Int) (i10 : Int) (i11 : Int) (i12 : Int) (i13 : Int) (i14 : Int) (i15 : Int) (l16 : List UserD) : Option (Bool) :=
 cond (i1 != i9)
 (some false)
 (cond (i2 != i10)
 (some false)
 (cond (i3 != i11)
 (some false)
 (cond (i4 != i12)
 (some false)
 (cond (i5 != i13)
 (some false)
 (cond (i6 != i14)
 (some false)
 (cond (i7 != i15)
 (some false)
 (cond ((l8.length : Int) != (l16.length : Int))
 (some false)
 (joinC (S := Unit) (R := Bool)
 (loopC (S := Int) (R := (Bool) ⊕ (Unit)) (F_wlvref18_Same_L6 l8 l16) 0)
 (F_wlvref18_Same_J4)))))))))
def F_wlvref18_Same_sig : Sig := ⟨[.v true [.d (.int .i64), .d (.int .i64), .d (.int .i64), .d (.int .i64), .d (.int .i64), .d (.int .i64), .d (.int .i64), .d (.sl (.pr .str (.pr (.pr (.sl (.int .u8)) (.sl (.int .u8))) (.pr (.int .i64) (.pr (.cpx .f64) (.sl (.pr .bool (.pr (.int .i64) (.pr .str (.pr (.pr .str (.int .i64)) (.pr (.int .i64) (.int .i64))))))))))))], .v true [.d (.int .i64), .d (.int .i64), .d (.int .i64), .d (.int .i64), .d (.int .i64), .d (.int .i64), .d (.int .i64), .d (.sl (.pr .str (.pr (.pr (.sl (.int .u8)) (.sl (.int .u8))) (.pr (.int .i64) (.pr (.cpx .f64) (.sl (.pr .bool (.pr (.int .i64) (.pr .str (.pr (.pr .str (.int .i64)) (.pr (.int .i64) (.int .i64))))))))))))]], [(false, [.d .bool])]⟩
def F_wlvref18_Same_ann : List (Nat × Ann) := [(4, ⟨5, [], [], ([4, 5] ++ List.range' 62 19), []⟩), (6, ⟨7, [(5, false, [.d (.int .i64)])], [], ([4] ++ List.range' 62 19), [2, 3]⟩)]
noncomputable def F_wlvref18_Same_env : Env := ⟨Tryz.prog, [(59, ⟨F_wlvref18_sameUser_sig, ⟨F_wlvref18_sameUser⟩⟩)], []⟩
theorem F_wlvref18_Same_text : pvFn F_wlvref18_Same_env F_wlvref18_Same_ann Tryz.f29 F_wlvref18_Same_sig = F_wlvref18_Same := by kernel_rfl
noncomputable def F_conf_copied (s1 : List Int) (l2 : List Int) (l3 : List Int) (i4 : Int) (z5 : (Nat × Nat)) (l6 : List RuleD) : Option (List Int × List Int × List Int × Int × (Nat × Nat) × List RuleD) :=
 (F_bytes_Clone l2).bind fun l7 =>
 (F_bytes_Clone l3).bind fun l8 =>
 (F_slices_Clone_conf_Rule_conf_Rule l6).bind fun l9 =>
 some (s1, l7, l8, i4, z5, l9)
def F_conf_copied_sig : Sig := ⟨[.v true [.d .str, .d (.sl (.int .u8)), .d (.sl (.int .u8)), .d (.int .i64), .d (.cpx .f64), .d (.sl (.pr .bool (.pr (.int .i64) (.pr .str (.pr (.pr .str (.int .i64)) (.pr (.int .i64) (.int .i64)))))))]], [(true, [.d .str, .own 5 (.int .u8), .own 5 (.int .u8), .d (.int .i64), .d (.cpx .f64), .own 68 (.pr .bool (.pr (.int .i64) (.pr .str (.pr (.pr .str (.int .i64)) (.pr (.int .i64) (.int .i64))))))])]⟩
def F_conf_copied_ann : List (Nat × Ann) := []
noncomputable def F_conf_copied_env : Env := ⟨Tryz.prog, [(52, ⟨F_bytes_Clone_sig, ⟨F_bytes_Clone⟩⟩), (107, ⟨F_slices_Clone_conf_Rule_conf_Rule_sig, ⟨F_slices_Clone_conf_Rule_conf_Rule⟩⟩)], []⟩
theorem F_conf_copied_text : pvFn F_conf_copied_env F_conf_copied_ann Tryz.f66 F_conf_copied_sig = F_conf_copied := by kernel_rfl
noncomputable def F_conf_Find_L3 (l8 : List UserD) (s9 : List Int) (s : Int × List Int × List Int × List Int × Int × (Nat × Nat) × List RuleD) : Option (((List Int × List Int × List Int × Int × (Nat × Nat) × List RuleD × Bool) ⊕ (List Int × List Int × List Int × Int × (Nat × Nat) × List RuleD)) ⊕ (Int × List Int × List Int × List Int × Int × (Nat × Nat) × List RuleD)) :=
 let i10 := s.1; let s11 := s.2.1; let l12 := s.2.2.1; let l13 := s.2.2.2.1; let i14 := s.2.2.2.2.1; let z15 := s.2.2.2.2.2.1; let l16 := s.2.2.2.2.2.2
 cond (decide (i10 < (l8.length : Int)))
 ((getI l8 i10).bind fun x17 =>
 cond (x17.1 == s9)
 ((F_conf_copied x17.1 x17.2.1.1 x17.2.1.2 x17.2.2.1 x17.2.2.2.1 x17.2.2.2.2).bind fun x18 =>
 some (.inl (.inl (x18.1, x18.2.1, x18.2.2.1, x18.2.2.2.1, x18.2.2.2.2.1, x18.2.2.2.2.2, true))))
 (some (.inr ((IntKind.i64.wrap (i10 + 1)), s11, l12, l13, i14, z15, l16))))
 (some (.inl (.inr (s11, l12, l13, i14, z15, l16))))
noncomputable def F_conf_Find_J1 (s : List Int × List Int × List Int × Int × (Nat × Nat) × List RuleD) : Option (List Int × List Int × List Int × Int × (Nat × Nat) × List RuleD × Bool) :=
 let s19 := s.1; let l20 := s.2.1; let l21 := s.2.2.1; let i22 := s.2.2.2.1; let z23 := s.2.2.2.2.1; let l24 := s.2.2.2.2.2
 some (([] : List Int), ([] : List Int), ([] : List Int), 0, (0, 0), ([] : List RuleD), false)
noncomputable def F_conf_Find (i1 : Int) (i2 : Int) (i3 : Int) (i4 : Int) (i5 : Int) (i6 : Int) (i7 : Int) (l8 : List UserD) (s9 : List Int) : Option (List Int × List Int × List Int × Int × (Nat × Nat) × List RuleD × Bool) :=
 joinC (S := List Int × List Int × List Int × Int × (Nat × Nat) × List RuleD) (R := List Int × List Int × List Int × Int × (Nat × Nat) × List RuleD × Bool)
 (loopC (S := Int × List Int × List Int × List Int × Int × (Nat × Nat) × List RuleD) (R := (List Int × List Int × List Int × Int × (Nat × Nat) × List RuleD × Bool) ⊕ (List Int × List Int × List Int × Int × (Nat × Nat) × List RuleD)) (F_conf_Find_L3 l8 s9) (0, ([] : List Int), ([] : List Int), ([] : List Int), 0, (0, 0), ([] : List RuleD)))
 (F_conf_Find_J1)
def F_conf_Find_sig : Sig := ⟨[.v true [.d (.int .i64), .d (.int .i64), .d (.int .i64), .d (.int .i64), .d (.int .i64), .d (.int .i64), .d (.int .i64), .d (.sl (.pr .str (.pr (.pr (.sl (.int .u8)) (.sl (.int .u8))) (.pr (.int .i64) (.pr (.cpx .f64) (.sl (.pr .bool (.pr (.int .i64) (.pr .str (.pr (.pr .str (.int .i64)) (.pr (.int .i64) (.int .i64))))))))))))], .v false [.d .str]], [(true, [.d .str, .own 5 (.int .u8), .own 5 (.int .u8), .d (.int .i64), .d (.cpx .f64), .own 68 (.pr .bool (.pr (.int .i64) (.pr .str (.pr (.pr .str (.int .i64)) (.pr (.int .i64) (.int .i64))))))]), (false, [.d .bool])]⟩
def F_conf_Find_ann : List (Nat × Ann) := [(1, ⟨2, [], [(4, [.d .str, .own 5 (.int .u8), .own 5 (.int .u8), .d (.int .i64), .d (.cpx .f64), .own 68 (.pr .bool (.pr (.int .i64) (.pr .str (.pr (.pr .str (.int .i64)) (.pr (.int .i64) (.int .i64))))))])], ([5] ++ List.range' 7 15), []⟩), (3, ⟨4, [(11, false, [.d (.int .i64)])], [(4, [.d .str, .own 5 (.int .u8), .own 5 (.int .u8), .d (.int .i64), .d (.cpx .f64), .own 68 (.pr .bool (.pr (.int .i64) (.pr .str (.pr (.pr .str (.int .i64)) (.pr (.int .i64) (.int .i64))))))])], ([5, 7] ++ List.range' 12 10), []⟩)]
noncomputable def F_conf_Find_env : Env := ⟨Tryz.prog, [(66, ⟨F_conf_copied_sig, ⟨F_conf_copied⟩⟩)], []⟩
theorem F_conf_Find_text : pvFn F_conf_Find_env F_conf_Find_ann Tryz.f34 F_conf_Find_sig = F_conf_Find := by kernel_rfl
noncomputable def F_tale_words_L3 (l2 : List Int) (s : List Int × Int) : Option (((List Int) ⊕ (List Int)) ⊕ (List Int × Int)) :=
 let s3 := s.1; let i4 := s.2
 cond (decide (i4 < (l2.length : Int)))
 ((getI l2 i4).bind fun i5 =>
 (F_strconv_Itoa i5).bind fun s6 =>
 chk (Nat.ble (([32] : List Int).length + s6.length) maxLen)
 (chk (Nat.ble (s3.length + (([32] : List Int) ++ s6).length) maxLen)
 (some (.inr ((s3 ++ (([32] : List Int) ++ s6)), (IntKind.i64.wrap (i4 + 1)))))))
 (some (.inl (.inr s3)))
noncomputable def F_tale_words_J1 (s : List Int) : Option (List Int) :=
 let s7 := s
 some s7
noncomputable def F_tale_words (s1 : List Int) (l2 : List Int) : Option (List Int) :=
 joinC (S := List Int) (R := List Int)
 (loopC (S := List Int × Int) (R := (List Int) ⊕ (List Int)) (F_tale_words_L3 l2) (s1, 0))
 (F_tale_words_J1)
def F_tale_words_sig : Sig := ⟨[.v false [.d .str], .v false [.d (.sl (.int .i64))]], [(false, [.d .str])]⟩
def F_tale_words_ann : List (Nat × Ann) := [(1, ⟨2, [(0, false, [.d .str])], [], (List.range' 6 13), []⟩), (3, ⟨4, [(0, false, [.d .str]), (9, false, [.d (.int .i64)])], [], ([6] ++ List.range' 10 9), []⟩)]
noncomputable def F_tale_words_env : Env := ⟨Tryz.prog, [(67, ⟨F_strconv_Itoa_sig, ⟨F_strconv_Itoa⟩⟩)], []⟩
theorem F_tale_words_text : pvFn F_tale_words_env F_tale_words_ann Tryz.f80 F_tale_words_sig = F_tale_words := by kernel_rfl
noncomputable def F_tale_Lines_L4 (i1 : Int) (i2 : Int) (i3 : Int) (i4 : Int) (s : List (List Int) × Int) : Option (((List (List Int)) ⊕ (List (List Int))) ⊕ (List (List Int) × Int)) :=
 let l5 := s.1; let i6 := s.2
 cond (decide (i6 < (minI (maxI i1 1) 16)))
 ((F_strconv_Itoa i6).bind fun s7 =>
 chk (Nat.ble (([117] : List Int).length + s7.length) maxLen)
 ((F_strconv_Itoa i6).bind fun s8 =>
 chk (Nat.ble (([119] : List Int).length + s8.length) maxLen)
 ((F_sha_Salted ([(IntKind.u8.wrap i6)] : List Int) (([119] : List Int) ++ s8)).bind fun l9 =>
 chk (Nat.ble (([117, 115, 101, 114, 32] : List Int).length + (([117] : List Int) ++ s7).length) maxLen)
 (chk (Nat.ble ((([117, 115, 101, 114, 32] : List Int) ++ (([117] : List Int) ++ s7)).length + ([32] : List Int).length) maxLen)
 ((F_conf_Hex ([(IntKind.u8.wrap i6)] : List Int)).bind fun s10 =>
 chk (Nat.ble (((([117, 115, 101, 114, 32] : List Int) ++ (([117] : List Int) ++ s7)) ++ ([32] : List Int)).length + s10.length) maxLen)
 (chk (Nat.ble ((((([117, 115, 101, 114, 32] : List Int) ++ (([117] : List Int) ++ s7)) ++ ([32] : List Int)) ++ s10).length + ([32] : List Int).length) maxLen)
 ((F_conf_Hex l9).bind fun s11 =>
 chk (Nat.ble (((((([117, 115, 101, 114, 32] : List Int) ++ (([117] : List Int) ++ s7)) ++ ([32] : List Int)) ++ s10) ++ ([32] : List Int)).length + s11.length) maxLen)
 ((F_tale_words (((((([117, 115, 101, 114, 32] : List Int) ++ (([117] : List Int) ++ s7)) ++ ([32] : List Int)) ++ s10) ++ ([32] : List Int)) ++ s11) ([i2, i3, i4] : List Int)).bind fun s12 =>
 chk (Nat.ble (([100, 101, 110, 121, 32] : List Int).length + (([117] : List Int) ++ s7).length) maxLen)
 (chk (Nat.ble ((([100, 101, 110, 121, 32] : List Int) ++ (([117] : List Int) ++ s7)).length + ([32, 98, 97, 100, 46, 101, 120, 97, 109, 112, 108, 101, 32, 42] : List Int).length) maxLen)
 (chk (Nat.ble (([100, 101, 110, 121, 32] : List Int).length + (([117] : List Int) ++ s7).length) maxLen)
 (chk (Nat.ble ((([100, 101, 110, 121, 32] : List Int) ++ (([117] : List Int) ++ s7)).length + ([32, 49, 48, 46, 48, 46, 48, 46, 48, 47, 56, 32, 42] : List Int).length) maxLen)
 (chk (Nat.ble (([97, 108, 108, 111, 119, 32] : List Int).length + (([117] : List Int) ++ s7).length) maxLen)
 (chk (Nat.ble ((([97, 108, 108, 111, 119, 32] : List Int) ++ (([117] : List Int) ++ s7)).length + ([32, 42, 32, 49, 45, 49, 48, 48, 48] : List Int).length) maxLen)
 (chk (decide ((l5.length + ([s12, ((([100, 101, 110, 121, 32] : List Int) ++ (([117] : List Int) ++ s7)) ++ ([32, 98, 97, 100, 46, 101, 120, 97, 109, 112, 108, 101, 32, 42] : List Int)), ((([100, 101, 110, 121, 32] : List Int) ++ (([117] : List Int) ++ s7)) ++ ([32, 49, 48, 46, 48, 46, 48, 46, 48, 47, 56, 32, 42] : List Int)), ((([97, 108, 108, 111, 119, 32] : List Int) ++ (([117] : List Int) ++ s7)) ++ ([32, 42, 32, 49, 45, 49, 48, 48, 48] : List Int))] : List (List Int)).length) * 16 ≤ 140737488355328) && decide (l5.length + ([s12, ((([100, 101, 110, 121, 32] : List Int) ++ (([117] : List Int) ++ s7)) ++ ([32, 98, 97, 100, 46, 101, 120, 97, 109, 112, 108, 101, 32, 42] : List Int)), ((([100, 101, 110, 121, 32] : List Int) ++ (([117] : List Int) ++ s7)) ++ ([32, 49, 48, 46, 48, 46, 48, 46, 48, 47, 56, 32, 42] : List Int)), ((([97, 108, 108, 111, 119, 32] : List Int) ++ (([117] : List Int) ++ s7)) ++ ([32, 42, 32, 49, 45, 49, 48, 48, 48] : List Int))] : List (List Int)).length ≤ maxLen))
 (some (.inr ((l5 ++ ([s12, ((([100, 101, 110, 121, 32] : List Int) ++ (([117] : List Int) ++ s7)) ++ ([32, 98, 97, 100, 46, 101, 120, 97, 109, 112, 108, 101, 32, 42] : List Int)), ((([100, 101, 110, 121, 32] : List Int) ++ (([117] : List Int) ++ s7)) ++ ([32, 49, 48, 46, 48, 46, 48, 46, 48, 47, 56, 32, 42] : List Int)), ((([97, 108, 108, 111, 119, 32] : List Int) ++ (([117] : List Int) ++ s7)) ++ ([32, 42, 32, 49, 45, 49, 48, 48, 48] : List Int))] : List (List Int))), (IntKind.i64.wrap (i6 + 1)))))))))))))))))))
 (some (.inl (.inr l5)))
noncomputable def F_tale_Lines_J2 (s : List (List Int)) : Option (List (List Int)) :=
 let l13 := s
 some l13
noncomputable def F_tale_Lines (i1 : Int) (i2 : Int) (i3 : Int) (i4 : Int) : Option (List (List Int)) :=
 joinC (S := List (List Int)) (R := List (List Int))
 (loopC (S := List (List Int) × Int) (R := (List (List Int)) ⊕ (List (List Int))) (F_tale_Lines_L4 i1 i2 i3 i4) (([([108, 105, 109, 105, 116, 32, 100, 105, 97, 108, 32, 53, 48] : List Int), ([108, 105, 109, 105, 116, 32, 105, 100, 108, 101, 32, 53, 48, 48] : List Int), ([108, 105, 109, 105, 116, 32, 108, 111, 103, 32, 54, 48] : List Int), ([108, 105, 109, 105, 116, 32, 98, 117, 102, 102, 101, 114, 32, 51, 48, 48] : List Int)] : List (List Int)), 0))
 (F_tale_Lines_J2)
def F_tale_Lines_sig : Sig := ⟨[.v false [.d (.int .i64)], .v false [.d (.int .i64)], .v false [.d (.int .i64)], .v false [.d (.int .i64)]], [(false, [.own 9 .str])]⟩
def F_tale_Lines_ann : List (Nat × Ann) := [(2, ⟨3, [(9, false, [.own 9 .str])], [], ([10, 11, 12, 13, 14] ++ List.range' 16 47), []⟩), (4, ⟨5, [(9, false, [.own 9 .str]), (19, false, [.d (.int .i64)])], [], ([10, 11, 12, 13, 14] ++ List.range' 20 43), []⟩)]
noncomputable def F_tale_Lines_env : Env := ⟨Tryz.prog, [(67, ⟨F_strconv_Itoa_sig, ⟨F_strconv_Itoa⟩⟩), (69, ⟨F_conf_Hex_sig, ⟨F_conf_Hex⟩⟩), (79, ⟨F_sha_Salted_sig, ⟨F_sha_Salted⟩⟩), (80, ⟨F_tale_words_sig, ⟨F_tale_words⟩⟩)], []⟩
theorem F_tale_Lines_text : pvFn F_tale_Lines_env F_tale_Lines_ann Tryz.f39 F_tale_Lines_sig = F_tale_Lines := by kernel_rfl
noncomputable def F_wlvlaw28_TaleLines_L15 (i1 : Int) (i2 : Int) (s : Int × Int × Int × Int × Int × Int × Int × Int × List UserD) : Option (((Bool) ⊕ (Int × Int × Int × Int × Int × Int × Int × List UserD)) ⊕ (Int × Int × Int × Int × Int × Int × Int × Int × List UserD)) :=
 let i9 := s.1; let i10 := s.2.1; let i11 := s.2.2.1; let i12 := s.2.2.2.1; let i13 := s.2.2.2.2.1; let i14 := s.2.2.2.2.2.1; let i15 := s.2.2.2.2.2.2.1; let i16 := s.2.2.2.2.2.2.2.1; let l17 := s.2.2.2.2.2.2.2.2
 cond (decide (i9 < (minI (maxI i1 1) 16)))
 ((getI l17 i9).bind fun x18 =>
 (F_conf_Find i10 i11 i12 i13 i14 i15 i16 l17 x18.1).bind fun x19 =>
 cond (!x19.2.2.2.2.2.2)
 (some (.inl (.inl false)))
 (cond ((x18.2.2.2.2.length : Int) != 3)
 (some (.inl (.inl false)))
 (cond (x18.2.2.1 != i2)
 (some (.inl (.inl false)))
 ((getI x18.2.2.2.2 2).bind fun x20 =>
 cond (!(bEq x20.1 true))
 (some (.inl (.inl false)))
 ((getI x18.2.2.2.2 0).bind fun x21 =>
 cond x21.1
 (some (.inl (.inl false)))
 (some (.inr ((IntKind.i64.wrap (i9 + 1)), i10, i11, i12, i13, i14, i15, i16, l17))))))))
 (some (.inl (.inr (i10, i11, i12, i13, i14, i15, i16, l17))))
noncomputable def F_wlvlaw28_TaleLines_J13 (s : Int × Int × Int × Int × Int × Int × Int × List UserD) : Option (Bool) :=
 let i22 := s.1; let i23 := s.2.1; let i24 := s.2.2.1; let i25 := s.2.2.2.1; let i26 := s.2.2.2.2.1; let i27 := s.2.2.2.2.2.1; let i28 := s.2.2.2.2.2.2.1; let l29 := s.2.2.2.2.2.2.2
 (F_wlvlaw28_first).bind fun b30 =>
 cond b30
 ((F_wlvref18_Same i22 i23 i24 i25 i26 i27 i28 l29 i22 i23 i24 i25 i26 i27 i28 l29).bind fun b31 =>
 some b31)
 (some false)
noncomputable def F_wlvlaw28_TaleLines (i1 : Int) (i2 : Int) (i3 : Int) (i4 : Int) : Option (Bool) :=
 (F_wlvlaw28_first).bind fun b5 =>
 cond (!b5)
 (some false)
 ((F_tale_Lines i1 i2 i3 i4).bind fun l6 =>
 (F_conf_Parse l6).bind fun x7 =>
 cond (!((((((decide (i2 ≥ 1)) && (decide (i2 ≤ 1000))) && (decide (i3 ≥ 0))) && (decide (i3 ≤ 1125899906842624))) && (decide (i4 ≥ 0))) && (decide (i4 ≤ 1125899906842624))))
 ((F_wlvlaw28_first).bind fun b8 =>
 cond b8
 (some (((x7.2.2.2.2.2.2.2.1.length : Int) == 0) && (x7.2.2.2.2.2.2.2.2 != 0)))
 (some false))
 (cond (x7.2.2.2.2.2.2.2.2 != 0)
 (some false)
 (cond ((x7.2.2.2.2.2.2.2.1.length : Int) != (minI (maxI i1 1) 16))
 (some false)
 (cond (x7.2.2.2.1 != 60)
 (some false)
 (cond (x7.2.2.1 != 300)
 (some false)
 (joinC (S := Int × Int × Int × Int × Int × Int × Int × List UserD) (R := Bool)
 (loopC (S := Int × Int × Int × Int × Int × Int × Int × Int × List UserD) (R := (Bool) ⊕ (Int × Int × Int × Int × Int × Int × Int × List UserD)) (F_wlvlaw28_TaleLines_L15 i1 i2) (0, x7.1, x7.2.1, x7.2.2.1, x7.2.2.2.1, x7.2.2.2.2.1, x7.2.2.2.2.2.1, x7.2.2.2.2.2.2.1, x7.2.2.2.2.2.2.2.1))
 (F_wlvlaw28_TaleLines_J13)))))))
def F_wlvlaw28_TaleLines_sig : Sig := ⟨[.v false [.d (.int .i64)], .v false [.d (.int .i64)], .v false [.d (.int .i64)], .v false [.d (.int .i64)]], [(false, [.d .bool])]⟩
def F_wlvlaw28_TaleLines_ann : List (Nat × Ann) := [(13, ⟨14, [], [(9, [.d (.int .i64), .d (.int .i64), .d (.int .i64), .d (.int .i64), .d (.int .i64), .d (.int .i64), .d (.int .i64), .own 63 (.pr .str (.pr (.pr (.sl (.int .u8)) (.sl (.int .u8))) (.pr (.int .i64) (.pr (.cpx .f64) (.sl (.pr .bool (.pr (.int .i64) (.pr .str (.pr (.pr .str (.int .i64)) (.pr (.int .i64) (.int .i64)))))))))))])], ([8, 13, 14, 15, 16] ++ List.range' 85 46), []⟩), (15, ⟨16, [(13, false, [.d (.int .i64)])], [(9, [.d (.int .i64), .d (.int .i64), .d (.int .i64), .d (.int .i64), .d (.int .i64), .d (.int .i64), .d (.int .i64), .own 63 (.pr .str (.pr (.pr (.sl (.int .u8)) (.sl (.int .u8))) (.pr (.int .i64) (.pr (.cpx .f64) (.sl (.pr .bool (.pr (.int .i64) (.pr .str (.pr (.pr .str (.int .i64)) (.pr (.int .i64) (.int .i64)))))))))))])], ([8, 14, 15, 16] ++ List.range' 85 46), []⟩)]
noncomputable def F_wlvlaw28_TaleLines_env : Env := ⟨Tryz.prog, [(12, ⟨F_wlvlaw28_first_sig, ⟨F_wlvlaw28_first⟩⟩), (27, ⟨F_conf_Parse_sig, ⟨F_conf_Parse⟩⟩), (29, ⟨F_wlvref18_Same_sig, ⟨F_wlvref18_Same⟩⟩), (34, ⟨F_conf_Find_sig, ⟨F_conf_Find⟩⟩), (39, ⟨F_tale_Lines_sig, ⟨F_tale_Lines⟩⟩)], []⟩
theorem F_wlvlaw28_TaleLines_text : pvFn F_wlvlaw28_TaleLines_env F_wlvlaw28_TaleLines_ann Tryz.f11 F_wlvlaw28_TaleLines_sig = F_wlvlaw28_TaleLines := by kernel_rfl
end Go.Proofs.YtgfmfgombmpodaaGreatDoor
namespace Go.Proofs.YtgfmfgombmpodaaGreatDoor
open Go.RowKit Pv
set_option linter.unusedVariables false
def qcell (n : Nat) : Value := .int .u64 (n : Int)
set_option maxHeartbeats 4000000 in
set_option maxRecDepth 1000000 in
theorem idxf_walk (a : Option Addr) (c : Nat) (l : List Nat) (p B : Nat) (w : World) (hp : 2 ≤ p) (hp2 : p ≤ 312) (hpos : ∀ q ∈ l, 2 ≤ q ∧ q < 312) (hl : l.length ≤ 100) (hB : w.cell? ⟨B, 0, none⟩ = some (.int .u64 (p : Int)))
    (hc : ∀ (i : Nat) q, l[i]? = some q → ∃ ad, a = some ad ∧ w.cell? (ad.add i) = some (.int .u64 (q : Int))) :
    Calls Tryz.prog 212 #[.slice a l.length c, .func (.func 187) #[] #[.pointer (some ⟨B, 0, none⟩)]] w fun e w' => ∃ r : Int, e = .returned (.int .i64 r) ∧ (decide (r ≥ 0) = divs p l) ∧ w' = w := by
  obtain ⟨n, hn⟩ : ∃ n, l.length = n := ⟨_, rfl⟩
  rw [hn]
  go_enter Tryz.func212, Tryz.ntmps212
  go_wp2
  go_loop [8] (fun i => ∃ k : Nat, i = .int .i64 k ∧ k ≤ n ∧ ∀ (j : Nat) q, j < k → l[j]? = some q → (p % q == 0) = false) (fun i => n - (RowKit.intOf i).toNat)
  case atStart => exact ⟨0, rfl, Nat.zero_le _, fun j q hj => absurd hj (Nat.not_lt_zero j)⟩
  case round =>
    obtain ⟨k, rfl, hk, hno⟩ := hrel
    by_cases hlt : k < n
    · obtain ⟨q, hq⟩ : ∃ q, l[k]? = some q := ⟨l[k]'(by omega), List.getElem?_eq_getElem (by omega)⟩
      obtain ⟨ad, rfl, hcell⟩ := hc k q hq
      obtain ⟨q2, q3⟩ := hpos q (List.mem_of_getElem? hq)
      have hq0 : ¬ (q : Int) = 0 := by omega
      have hmod : Int.tmod (p : Int) (q : Int) = ((p % q : Nat) : Int) := rfl
      clear hc
      have hdm : (((p % q : Nat) : Int) == 0) = (p % q == 0) := by
        rw [Bool.eq_iff_iff, beq_iff_eq, beq_iff_eq]; omega
      go_wp2
      · rename_i h _
        have hd : p % q = 0 := by exact_mod_cast (beq_iff_eq.1 h)
        go_ret
        refine ⟨(k : Int), rfl, ?_, rfl⟩
        rw [decide_eq_true (show (k : Int) ≥ 0 by omega)]
        exact (List.any_eq_true.2 ⟨q, List.mem_of_getElem? hq, by rw [hd]; rfl⟩).symm
      · rename_i h
        have hd : ¬ p % q = 0 := by
          try simp at h
          omega
        refine ⟨⟨k + 1, by simp, by omega, fun j q' hj hq' => ?_⟩, by simp [RowKit.intOf]; omega⟩
        by_cases hjk : j = k
        · subst hjk
          rw [hq] at hq'
          injection hq' with hq'
          subst hq'
          simpa using hd
        · exact hno j q' (by omega) hq'
    · go_wp2
      go_ret
      refine ⟨-1, rfl, ?_, rfl⟩
      have : divs p l = false := by
        unfold divs
        rw [Bool.eq_false_iff]
        intro h
        obtain ⟨q, hq, hz⟩ := List.any_eq_true.1 h
        obtain ⟨j, hj⟩ := List.mem_iff_getElem?.1 hq
        have hjl := (List.getElem?_eq_some_iff.1 hj).1
        rw [hno j q (by omega) hj] at hz
        cases hz
      rw [this]; rfl
set_option maxHeartbeats 4000000 in
set_option maxRecDepth 1000000 in
theorem conf_walk (a : Option Addr) (n c : Nat) (l : List Nat) (p B : Nat) (w : World) (hn : l.length = n) (hp : 2 ≤ p) (hp2 : p ≤ 312) (hpos : ∀ q ∈ l, 2 ≤ q ∧ q < 312) (hl : l.length ≤ 100) (hB : w.cell? ⟨B, 0, none⟩ = some (.int .u64 (p : Int)))
    (hc : ∀ (i : Nat) q, l[i]? = some q → ∃ ad, a = some ad ∧ w.cell? (ad.add i) = some (.int .u64 (q : Int))) :
    Calls Tryz.prog 186 #[.slice a n c, .func (.func 187) #[] #[.pointer (some ⟨B, 0, none⟩)]] w fun e w' => e = .returned (.bool (divs p l)) ∧ w' = w := by
  subst hn
  have A := idxf_walk a c l p B w hp hp2 hpos hl hB hc
  go_enter Tryz.func186, Tryz.ntmps186
  go_wp2_with (go_at_call 212; (with_reducible refine A.mono ?_); rintro e w' ⟨r, rfl, hr, rfl⟩)
  go_ret
  exact ⟨by rw [← hr]; rfl, rfl⟩
theorem infoQ : (Tryz.prog.info? 218).map (fun i => (i.zero, i.size, i.bytes)) = some (some (.int .u64 0), 1, 8) := by kernel_rfl
structure PrmI (w0 : World) (v : Value) (p B : Nat) (wr : World) : Prop where
  h2 : 2 ≤ p
  h3 : p ≤ 312
  hB : wr.heap[B]? = some (.cells #[.int .u64 (p : Int)] 218)
  own : wr.ownsRow w0.heap.size 218 1 v (mN p) ((rowP p).map qcell)
  lt : ∀ k, v.ownBlock = some k → k < B
  bel : Below w0.heap.size w0 wr
  ge : w0.heap.size ≤ B
theorem own_view {w : World} {base : Nat} {e : TypeId} {v : Value} {n : Nat} {l : List Nat} (hl : l.length = n) (h : w.ownsRow base e 1 v n (l.map qcell)) : ∃ a c, v = .slice a n c ∧ ∀ (i : Nat) q, l[i]? = some q → ∃ ad, a = some ad ∧ w.cell? (ad.add i) = some (.int .u64 (q : Int)) := by
  rcases h.2 with ⟨h1, h2⟩ | ⟨b, cap, cur, h1, hb, hg, hle, hm, hs, ht⟩
  · refine ⟨none, 0, by rw [h1, h2], fun i q hq => ?_⟩
    have : l = [] := List.eq_nil_of_length_eq_zero (by omega)
    rw [this] at hq; cases hq
  · refine ⟨some ⟨b, 0, none⟩, cap, h1, fun i q hq => ⟨_, rfl, ?_⟩⟩
    have hi := (List.getElem?_eq_some_iff.1 hq).1
    have e : (cur.toList.take (n * 1))[i]? = some (.int .u64 (q : Int)) := by
      rw [ht, List.getElem?_map, hq]; rfl
    have ea : Addr.add ⟨b, 0, none⟩ i = ⟨b, i, none⟩ := by
      unfold Addr.add
      split <;> simp_all
    rw [ea, cell_at hg]
    rw [List.getElem?_take] at e
    split at e
    · simpa using e
    · cases e
theorem own_lt {w : World} {base : Nat} {e : TypeId} {v : Value} {n size : Nat} {l : List Value} (h : w.ownsRow base e size v n l) {k : Nat} (hk : v.ownBlock = some k) : k < w.heap.size := by
  rcases h.2 with ⟨h1, h2⟩ | ⟨b, cap, cur, h1, hb, hg, _⟩
  · rw [h1] at hk; cases hk
  · rw [h1] at hk
    have hk : b = k := by simpa [Value.ownBlock] using hk
    rw [← hk]
    exact lt_of_cells hg
def pOf (pt : Value) (wr : World) : Nat := match pt with
  | .pointer (some ad) => match wr.cell? ad with | some (.int _ n) => n.toNat | _ => 0
  | _ => 0
theorem prm_next {w wr : World} {v : Value} {p : Nat} (h2 : 2 ≤ p) (hp : p ≤ 311) (hown : wr.ownsRow w.heap.size 218 1 v (mN (p + 1)) ((rowP (p + 1)).map qcell)) (hbel : Below w.heap.size w wr) :
    PrmI w v (p + 1) wr.heap.size (wr.alloc (.cells #[.int .u64 ((p : Int) + 1)] 218)) where
  h2 := by omega
  h3 := by omega
  hB := by
    rw [heap_alloc_new]
    have : ((p : Int) + 1) = ((p + 1 : Nat) : Int) := by omega
    rw [this]
  own := hown.alloc _
  lt := fun k hk => own_lt hown hk
  bel := hbel.alloc hbel.size _
  ge := hbel.size
theorem pOf_new (wr : World) (p : Nat) (t : TypeId) : pOf (.pointer (some ⟨wr.heap.size, 0, none⟩)) (wr.alloc (.cells #[.int .u64 ((p : Int) + 1)] t)) = p + 1 := by
  unfold pOf
  dsimp only
  rw [cell_at (heap_alloc_new wr _)]
  show ((p : Int) + 1).toNat = p + 1
  omega
theorem pOf_old {wr : World} {B p : Nat} (h : wr.cell? ⟨B, 0, none⟩ = some (.int .u64 (p : Int))) : pOf (.pointer (some ⟨B, 0, none⟩)) wr = p := by
  unfold pOf
  dsimp only
  rw [h]; rfl
set_option maxHeartbeats 8000000 in
set_option maxRecDepth 1000000 in
theorem primes_walk (w : World) : Calls Tryz.prog 150 #[.int .i64 64] w fun e w' => ∃ v, e = .returned v ∧ w'.ownsRow w.heap.size 218 1 v 64 (P64N.map qcell) ∧ Below w.heap.size w w' := by
  obtain ⟨i0, hi, hz0, hz1, hz2⟩ := info_parts infoQ
  go_enter Tryz.func150, Tryz.ntmps150
  go_wp2
  go_loopw [3, 4] (fun v pt wr => ∃ p B : Nat, pt = .pointer (some ⟨B, 0, none⟩) ∧ PrmI w v p B wr) (fun _ pt wr => 400 - pOf pt wr)
  case atStart =>
    refine ⟨2, w.heap.size, rfl, by omega, by omega, ?_, ?_, fun k hk => by simp [Value.ownBlock] at hk, (Below.refl _ w).alloc (Nat.le_refl _) _, Nat.le_refl _⟩
    · rw [heap_alloc_new]; rfl
    · rw [p_start, row_start]
      exact World.ownsRow_nil _ _ _ _
  case round =>
    obtain ⟨p, B, rfl, hI⟩ := hrel
    obtain ⟨h2, h3, hB, hown, hlt, hbel, hge⟩ := hI
    have hrl := row_len h3 h2
    obtain ⟨a, c, rfl, hc⟩ := own_view hrl hown
    have hcell : wr.cell? ⟨B, 0, none⟩ = some (.int .u64 (p : Int)) := by rw [cell_at hB]; rfl
    by_cases hp : p ≤ 311
    · obtain ⟨s1, s2, s3⟩ := p_step h2 hp
      have hcw := conf_walk a (mN p) c (rowP p) p B wr hrl h2 h3 (fun q hq => row_pos hq) (by omega) hcell hc
      have K : Aside (wr.ownsRow w.heap.size 218 1 (.slice a (mN p) c) (mN p) ((rowP p).map qcell)) := hown
      clear hown hc hrl
      by_cases hd : divs p (rowP p) = true
      · rw [hd] at hcw
        go_wp2_with (go_at_call 186; (with_reducible refine hcw.mono ?_); rintro e w' ⟨rfl, rfl⟩)
        have e := s2 hd
        have hK : w'.ownsRow w.heap.size 218 1 (.slice a (mN p) c) (mN (p + 1)) ((rowP (p + 1)).map qcell) := by
          have : rowP (p + 1) = rowP p := by unfold rowP; rw [e]
          rw [e, this]; exact K
        exact ⟨⟨p + 1, w'.heap.size, rfl, prm_next h2 hp hK hbel⟩, by rw [pOf_new, pOf_old hcell]; omega⟩
      · have hd : divs p (rowP p) = false := by simpa using hd
        obtain ⟨e1, e2⟩ := s3 hd
        rw [hd] at hcw
        have Q : Aside (PrmI w (.slice a (mN p) c) p B wr) := ⟨h2, h3, hB, K, hlt, hbel, hge⟩
        go_wp2_with (first
          | (go_at_call 186; (with_reducible refine hcw.mono ?_); rintro e w' ⟨rfl, rfl⟩)
          | (at_builtin; refine wpList_append_own _ rfl _ _ 216 rfl w.heap.size 218 i0 (.int .u64 0) 1 8 Tryz.underlying216 hi hz0 hz1 hz2 rfl (by decide) _ _ _ rfl (Q.own.alloc _) _ 1 1 [.int .u64 (p : Int)] rfl ?qa ?qb ?qc ?qd ?qe ?qf ?qg))
        case qa => rfl
        case qb =>
          intro j u hj
          have hj0 : j = 0 := by
            have := (List.getElem?_eq_some_iff.1 hj).1
            simpa using this
          subst hj0
          have hu : Value.int .u64 (p : Int) = u := by
            have hj : some (Value.int .u64 (p : Int)) = some u := hj
            injection hj
          have ea : Addr.add ⟨w'.heap.size, 0, none⟩ 0 = ⟨w'.heap.size, 0, none⟩ := by
            unfold Addr.add
            split <;> simp_all
          rw [ea, cell_at (heap_alloc_new w' _), ← hu]; rfl
        case qc => intro u hu; rw [List.mem_singleton.1 hu]; rfl
        case qd => unfold maxLen; omega
        case qe => omega
        case qf => rw [World.size_alloc]; have := hbel.size; omega
        case qg =>
          intro v2 w2 g1 g2 g3
          have hBs : B < w'.heap.size := lt_of_cells hB
          have hne : ∀ k, (Value.slice a (mN p) c).ownBlock = some k → k ≠ B := fun k hk => by have := hlt k hk; omega
          have hB2 : w2.heap[B]? = some (.cells #[.int .u64 (p : Int)] 218) := by
            rw [g2.block B (by rw [World.size_alloc]; omega) (fun e => hne B e.symm rfl), heap_alloc_old _ _ hBs]
            exact hB
          have hc2 : w2.cell? ⟨B, 0, none⟩ = some (.int .u64 (p : Int)) := by rw [cell_at hB2]; rfl
          have hK : w2.ownsRow w.heap.size 218 1 v2 (mN (p + 1)) ((rowP (p + 1)).map qcell) := by
            rw [e1, e2, List.map_append]; exact g1
          have hbel2 : Below w.heap.size w w2 := (hbel.alloc hbel.size _).grown g2 (by rw [World.size_alloc]; have := hbel.size; omega) (fun k hk => (K.lt k hk).1)
          clear g1 g2 g3
          go_wp2
          exact ⟨⟨p + 1, w2.heap.size, rfl, prm_next h2 hp hK hbel2⟩, by rw [pOf_new, pOf_old hcell]; omega⟩
    · have hp : p = 312 := by omega
      subst hp
      have hm : mN 312 = 64 := p_end
      have K : Aside (wr.ownsRow w.heap.size 218 1 (.slice a (mN 312) c) (mN 312) ((rowP 312).map qcell)) := hown
      rw [hm, row_end] at K
      rw [hm]
      clear hown hc hrl
      go_wp2
      go_ret
      exact ⟨_, rfl, K, hbel⟩
theorem F_sha_primes_sound {T : Tab} : SoundFn Tryz.prog T 150 F_sha_primes_sig ⟨F_sha_primes⟩ := by
  refine sound_of rfl fun F g O xs ls y tmf w args hT hw hlim hls happ hsz hr => ?_
  obtain ⟨(n : Int), xs', rfl, h2⟩ := appF_inv_c (ts := []) happ
  obtain ⟨rfl, h3⟩ := appF_inv_n h2
  have hls' : some [Leaf.d (.int .i64) n] = some ls := hls
  injection hls' with hls'
  subst hls'
  obtain ⟨e0, e1⟩ := rel_int (hr 0)
  rw [args_1 hsz, e0]
  have h3 : cond (n == 64) (some P64) none = some y := h3
  cases hb : n == 64 with
  | false => rw [hb] at h3; cases h3
  | true =>
    rw [hb] at h3
    have hy : P64 = y := by injection h3
    have hn : n = 64 := beq_iff_eq.1 hb
    subst hy
    subst hn
    refine (primes_walk w).mono ?_
    rintro e w' ⟨v, rfl, h1, h2⟩
    have e64 : P64.map (Value.int .u64) = P64N.map qcell := by
      unfold P64
      rw [List.map_map]; rfl
    have hl : P64.length = 64 := by kernel_rfl
    refine own_row (l := P64) hw hlim h2 (by rw [e64, hl]; exact h1) (fun x hx => ?_) rfl rfl
    obtain ⟨q, hq, rfl⟩ := List.mem_map.1 hx
    have := List.all_eq_true.1 (show P64N.all (fun q => decide (q < 312)) = true by kernel_rfl) q hq
    have := of_decide_eq_true this
    exact wfQ' (by omega) (by omega)
end Go.Proofs.YtgfmfgombmpodaaGreatDoor
namespace Go.Proofs.YtgfmfgombmpodaaGreatDoor
open Pv
theorem F_math_bits_Mul64_sound {T : Tab} : SoundFn Tryz.prog T 213 F_math_bits_Mul64_sig ⟨F_math_bits_Mul64⟩ := by
  have h := fn_sound (T := T) (E := F_math_bits_Mul64_env) (by unfold Env.ok; exact fun p h => by cases h) (A := F_math_bits_Mul64_ann) (f := 213) (fn := Tryz.f213) (s := F_math_bits_Mul64_sig) Tryz.func213
  rw [F_math_bits_Mul64_text] at h
  exact h
theorem F_sha_most_sound {T : Tab} : SoundFn Tryz.prog T 188 F_sha_most_sig ⟨F_sha_most⟩ := by
  have h := fn_sound (T := T) (E := F_sha_most_env) (by unfold Env.ok; exact List.forall_mem_cons.2 ⟨F_math_bits_Mul64_sound, fun p h => by cases h⟩) (A := F_sha_most_ann) (f := 188) (fn := Tryz.f188) (s := F_sha_most_sig) Tryz.func188
  rw [F_sha_most_text] at h
  exact h
theorem F_sha_fraction_sound {T : Tab} : SoundFn Tryz.prog T 151 F_sha_fraction_sig ⟨F_sha_fraction⟩ := by
  have h := fn_sound (T := T) (E := F_sha_fraction_env) (by unfold Env.ok; exact List.forall_mem_cons.2 ⟨F_sha_most_sound, fun p h => by cases h⟩) (A := F_sha_fraction_ann) (f := 151) (fn := Tryz.f151) (s := F_sha_fraction_sig) Tryz.func151
  rw [F_sha_fraction_text] at h
  exact h
theorem F_sha_padded_sound {T : Tab} : SoundFn Tryz.prog T 152 F_sha_padded_sig ⟨F_sha_padded⟩ := by
  have h := fn_sound (T := T) (E := F_sha_padded_env) (by unfold Env.ok; exact List.forall_mem_cons.2 ⟨F_slices_Clone_byte_byte_sound, fun p h => by cases h⟩) (A := F_sha_padded_ann) (f := 152) (fn := Tryz.f152) (s := F_sha_padded_sig) Tryz.func152
  rw [F_sha_padded_text] at h
  exact h
theorem F_math_bits_RotateLeft32_sound {T : Tab} : SoundFn Tryz.prog T 189 F_math_bits_RotateLeft32_sig ⟨F_math_bits_RotateLeft32⟩ := by
  have h := fn_sound (T := T) (E := F_math_bits_RotateLeft32_env) (by unfold Env.ok; exact fun p h => by cases h) (A := F_math_bits_RotateLeft32_ann) (f := 189) (fn := Tryz.f189) (s := F_math_bits_RotateLeft32_sig) Tryz.func189
  rw [F_math_bits_RotateLeft32_text] at h
  exact h
theorem F_sha_state_turned_sound {T : Tab} : SoundFn Tryz.prog T 153 F_sha_state_turned_sig ⟨F_sha_state_turned⟩ := by
  have h := fn_sound (T := T) (E := F_sha_state_turned_env) (by unfold Env.ok; exact List.forall_mem_cons.2 ⟨F_math_bits_RotateLeft32_sound, fun p h => by cases h⟩) (A := F_sha_state_turned_ann) (f := 153) (fn := Tryz.f153) (s := F_sha_state_turned_sig) Tryz.func153
  rw [F_sha_state_turned_text] at h
  exact h
theorem F_sha_One_sound {T : Tab} : SoundFn Tryz.prog T 115 F_sha_One_sig ⟨F_sha_One⟩ := by
  have h := fn_sound (T := T) (E := F_sha_One_env) (by unfold Env.ok; exact List.forall_mem_cons.2 ⟨F_sha_primes_sound, List.forall_mem_cons.2 ⟨F_sha_fraction_sound, List.forall_mem_cons.2 ⟨F_sha_padded_sound, List.forall_mem_cons.2 ⟨F_sha_state_turned_sound, fun p h => by cases h⟩⟩⟩⟩) (A := F_sha_One_ann) (f := 115) (fn := Tryz.f115) (s := F_sha_One_sig) Tryz.func115
  rw [F_sha_One_text] at h
  exact h
theorem F_sha_Salted_sound {T : Tab} : SoundFn Tryz.prog T 79 F_sha_Salted_sig ⟨F_sha_Salted⟩ := by
  have h := fn_sound (T := T) (E := F_sha_Salted_env) (by unfold Env.ok; exact List.forall_mem_cons.2 ⟨F_slices_Concat_byte_byte_sound, List.forall_mem_cons.2 ⟨F_sha_One_sound, fun p h => by cases h⟩⟩) (A := F_sha_Salted_ann) (f := 79) (fn := Tryz.f79) (s := F_sha_Salted_sig) Tryz.func79
  rw [F_sha_Salted_text] at h
  exact h
theorem F_frame_Put_sound {T : Tab} : SoundFn Tryz.prog T 93 F_frame_Put_sig ⟨F_frame_Put⟩ := by
  have h := fn_sound (T := T) (E := F_frame_Put_env) (by unfold Env.ok; exact fun p h => by cases h) (A := F_frame_Put_ann) (f := 93) (fn := Tryz.f93) (s := F_frame_Put_sig) Tryz.func93
  rw [F_frame_Put_text] at h
  exact h
theorem F_tale_put_sound {T : Tab} : SoundFn Tryz.prog T 50 F_tale_put_sig ⟨F_tale_put⟩ := by
  have h := fn_sound (T := T) (E := F_tale_put_env) (by unfold Env.ok; exact List.forall_mem_cons.2 ⟨F_frame_Put_sound, fun p h => by cases h⟩) (A := F_tale_put_ann) (f := 50) (fn := Tryz.f50) (s := F_tale_put_sig) Tryz.func50
  rw [F_tale_put_text] at h
  exact h
theorem F_part_flag_sound {T : Tab} : SoundFn Tryz.prog T 116 F_part_flag_sig ⟨F_part_flag⟩ := by
  have h := fn_sound (T := T) (E := F_part_flag_env) (by unfold Env.ok; exact fun p h => by cases h) (A := F_part_flag_ann) (f := 116) (fn := Tryz.f116) (s := F_part_flag_sig) Tryz.func116
  rw [F_part_flag_text] at h
  exact h
theorem F_part_bits_sound {T : Tab} : SoundFn Tryz.prog T 117 F_part_bits_sig ⟨F_part_bits⟩ := by
  have h := fn_sound (T := T) (E := F_part_bits_env) (by unfold Env.ok; exact fun p h => by cases h) (A := F_part_bits_ann) (f := 117) (fn := Tryz.f117) (s := F_part_bits_sig) Tryz.func117
  rw [F_part_bits_text] at h
  exact h
theorem F_part_Settings_sound {T : Tab} : SoundFn Tryz.prog T 81 F_part_Settings_sig ⟨F_part_Settings⟩ := by
  have h := fn_sound (T := T) (E := F_part_Settings_env) (by unfold Env.ok; exact List.forall_mem_cons.2 ⟨F_part_flag_sound, List.forall_mem_cons.2 ⟨F_part_bits_sound, fun p h => by cases h⟩⟩) (A := F_part_Settings_ann) (f := 81) (fn := Tryz.f81) (s := F_part_Settings_sig) Tryz.func81
  rw [F_part_Settings_text] at h
  exact h
theorem F_tale_Hello_sound {T : Tab} : SoundFn Tryz.prog T 40 F_tale_Hello_sig ⟨F_tale_Hello⟩ := by
  have h := fn_sound (T := T) (E := F_tale_Hello_env) (by unfold Env.ok; exact List.forall_mem_cons.2 ⟨F_slices_Concat_byte_byte_sound, List.forall_mem_cons.2 ⟨F_tale_put_sound, List.forall_mem_cons.2 ⟨F_part_Settings_sound, fun p h => by cases h⟩⟩⟩) (A := F_tale_Hello_ann) (f := 40) (fn := Tryz.f40) (s := F_tale_Hello_sig) Tryz.func40
  rw [F_tale_Hello_text] at h
  exact h
theorem F_tale_answers_sound {T : Tab} : SoundFn Tryz.prog T 118 F_tale_answers_sig ⟨F_tale_answers⟩ := by
  have h := fn_sound (T := T) (E := F_tale_answers_env) (by unfold Env.ok; exact fun p h => by cases h) (A := F_tale_answers_ann) (f := 118) (fn := Tryz.f118) (s := F_tale_answers_sig) Tryz.func118
  rw [F_tale_answers_text] at h
  exact h
theorem F_tale_bytes_sound {T : Tab} : SoundFn Tryz.prog T 119 F_tale_bytes_sig ⟨F_tale_bytes⟩ := by
  have h := fn_sound (T := T) (E := F_tale_bytes_env) (by unfold Env.ok; exact List.forall_mem_cons.2 ⟨F_slices_Repeat_byte_byte_sound, fun p h => by cases h⟩) (A := F_tale_bytes_ann) (f := 119) (fn := Tryz.f119) (s := F_tale_bytes_sig) Tryz.func119
  rw [F_tale_bytes_text] at h
  exact h
theorem F_pint_ones_sound {T : Tab} : SoundFn Tryz.prog T 128 F_pint_ones_sig ⟨F_pint_ones⟩ := by
  have h := fn_sound (T := T) (E := F_pint_ones_env) (by unfold Env.ok; exact fun p h => by cases h) (A := F_pint_ones_ann) (f := 128) (fn := Tryz.f128) (s := F_pint_ones_sig) Tryz.func128
  rw [F_pint_ones_text] at h
  exact h
theorem F_pint_Put_sound {T : Tab} : SoundFn Tryz.prog T 90 F_pint_Put_sig ⟨F_pint_Put⟩ := by
  have h := fn_sound (T := T) (E := F_pint_Put_env) (by unfold Env.ok; exact List.forall_mem_cons.2 ⟨F_pint_ones_sound, fun p h => by cases h⟩) (A := F_pint_Put_ann) (f := 90) (fn := Tryz.f90) (s := F_pint_Put_sig) Tryz.func90
  rw [F_pint_Put_text] at h
  exact h
theorem F_tale_text_sound {T : Tab} : SoundFn Tryz.prog T 46 F_tale_text_sig ⟨F_tale_text⟩ := by
  have h := fn_sound (T := T) (E := F_tale_text_env) (by unfold Env.ok; exact List.forall_mem_cons.2 ⟨F_pint_Put_sound, fun p h => by cases h⟩) (A := F_tale_text_ann) (f := 46) (fn := Tryz.f46) (s := F_tale_text_sig) Tryz.func46
  rw [F_tale_text_text] at h
  exact h
theorem F_tale_Block_sound {T : Tab} : SoundFn Tryz.prog T 16 F_tale_Block_sig ⟨F_tale_Block⟩ := by
  have h := fn_sound (T := T) (E := F_tale_Block_env) (by unfold Env.ok; exact List.forall_mem_cons.2 ⟨F_slices_Concat_byte_byte_sound, List.forall_mem_cons.2 ⟨F_tale_text_sound, fun p h => by cases h⟩⟩) (A := F_tale_Block_ann) (f := 16) (fn := Tryz.f16) (s := F_tale_Block_sig) Tryz.func16
  rw [F_tale_Block_text] at h
  exact h
theorem F_tale_flags_sound {T : Tab} : SoundFn Tryz.prog T 51 F_tale_flags_sig ⟨F_tale_flags⟩ := by
  have h := fn_sound (T := T) (E := F_tale_flags_env) (by unfold Env.ok; exact fun p h => by cases h) (A := F_tale_flags_ann) (f := 51) (fn := Tryz.f51) (s := F_tale_flags_sig) Tryz.func51
  rw [F_tale_flags_text] at h
  exact h
theorem F_tale_Connect_sound {T : Tab} : SoundFn Tryz.prog T 22 F_tale_Connect_sig ⟨F_tale_Connect⟩ := by
  have h := fn_sound (T := T) (E := F_tale_Connect_env) (by unfold Env.ok; exact List.forall_mem_cons.2 ⟨F_tale_Block_sound, List.forall_mem_cons.2 ⟨F_b64_Encode_sound, List.forall_mem_cons.2 ⟨F_tale_put_sound, List.forall_mem_cons.2 ⟨F_tale_flags_sound, fun p h => by cases h⟩⟩⟩⟩) (A := F_tale_Connect_ann) (f := 22) (fn := Tryz.f22) (s := F_tale_Connect_sig) Tryz.func22
  rw [F_tale_Connect_text] at h
  exact h
theorem F_tale_connects_sound {T : Tab} (h_pow10 : tab_pow10 ∈ T) : SoundFn Tryz.prog T 155 F_tale_connects_sig ⟨F_tale_connects⟩ := by
  have h := fn_sound (T := T) (E := F_tale_connects_env) (by unfold Env.ok; exact List.forall_mem_cons.2 ⟨F_tale_Connect_sound, List.forall_mem_cons.2 ⟨F_strconv_Itoa_sound h_pow10, fun p h => by cases h⟩⟩) (A := F_tale_connects_ann) (f := 155) (fn := Tryz.f155) (s := F_tale_connects_sig) Tryz.func155
  rw [F_tale_connects_text] at h
  exact h
theorem F_tale_Data_sound {T : Tab} : SoundFn Tryz.prog T 156 F_tale_Data_sig ⟨F_tale_Data⟩ := by
  have h := fn_sound (T := T) (E := F_tale_Data_env) (by unfold Env.ok; exact List.forall_mem_cons.2 ⟨F_tale_put_sound, List.forall_mem_cons.2 ⟨F_tale_flags_sound, fun p h => by cases h⟩⟩) (A := F_tale_Data_ann) (f := 156) (fn := Tryz.f156) (s := F_tale_Data_sig) Tryz.func156
  rw [F_tale_Data_text] at h
  exact h
theorem F_part_Rst_sound {T : Tab} : SoundFn Tryz.prog T 157 F_part_Rst_sig ⟨F_part_Rst⟩ := by
  have h := fn_sound (T := T) (E := F_part_Rst_env) (by unfold Env.ok; exact List.forall_mem_cons.2 ⟨F_part_bits_sound, fun p h => by cases h⟩) (A := F_part_Rst_ann) (f := 157) (fn := Tryz.f157) (s := F_part_Rst_sig) Tryz.func157
  rw [F_part_Rst_text] at h
  exact h
theorem F_part_Update_sound {T : Tab} : SoundFn Tryz.prog T 158 F_part_Update_sig ⟨F_part_Update⟩ := by
  have h := fn_sound (T := T) (E := F_part_Update_env) (by unfold Env.ok; exact List.forall_mem_cons.2 ⟨F_part_bits_sound, fun p h => by cases h⟩) (A := F_part_Update_ann) (f := 158) (fn := Tryz.f158) (s := F_part_Update_sig) Tryz.func158
  rw [F_part_Update_text] at h
  exact h
theorem F_tale_feeds_sound {T : Tab} (h_pow10 : tab_pow10 ∈ T) : SoundFn Tryz.prog T 120 F_tale_feeds_sig ⟨F_tale_feeds⟩ := by
  have h := fn_sound (T := T) (E := F_tale_feeds_env) (by unfold Env.ok; exact List.forall_mem_cons.2 ⟨F_tale_Hello_sound, List.forall_mem_cons.2 ⟨F_tale_put_sound, List.forall_mem_cons.2 ⟨F_tale_bytes_sound, List.forall_mem_cons.2 ⟨F_tale_connects_sound h_pow10, List.forall_mem_cons.2 ⟨F_tale_Data_sound, List.forall_mem_cons.2 ⟨F_part_Rst_sound, List.forall_mem_cons.2 ⟨F_part_Update_sound, fun p h => by cases h⟩⟩⟩⟩⟩⟩⟩) (A := F_tale_feeds_ann) (f := 120) (fn := Tryz.f120) (s := F_tale_feeds_sig) Tryz.func120
  rw [F_tale_feeds_text] at h
  exact h
theorem F_tale_event_sound {T : Tab} (h_pow10 : tab_pow10 ∈ T) : SoundFn Tryz.prog T 82 F_tale_event_sig ⟨F_tale_event⟩ := by
  have h := fn_sound (T := T) (E := F_tale_event_env) (by unfold Env.ok; exact List.forall_mem_cons.2 ⟨F_tale_answers_sound, List.forall_mem_cons.2 ⟨F_tale_bytes_sound, List.forall_mem_cons.2 ⟨F_tale_feeds_sound h_pow10, fun p h => by cases h⟩⟩⟩) (A := F_tale_event_ann) (f := 82) (fn := Tryz.f82) (s := F_tale_event_sig) Tryz.func82
  rw [F_tale_event_text] at h
  exact h
theorem F_tale_Events_sound {T : Tab} (h_pow10 : tab_pow10 ∈ T) : SoundFn Tryz.prog T 41 F_tale_Events_sig ⟨F_tale_Events⟩ := by
  have h := fn_sound (T := T) (E := F_tale_Events_env) (by unfold Env.ok; exact List.forall_mem_cons.2 ⟨F_tale_event_sound h_pow10, fun p h => by cases h⟩) (A := F_tale_Events_ann) (f := 41) (fn := Tryz.f41) (s := F_tale_Events_sig) Tryz.func41
  rw [F_tale_Events_text] at h
  exact h
theorem F_wlvlaw28_first_sound {T : Tab} (h_pow10 : tab_pow10 ∈ T) : SoundFn Tryz.prog T 12 F_wlvlaw28_first_sig ⟨F_wlvlaw28_first⟩ := by
  have h := fn_sound (T := T) (E := F_wlvlaw28_first_env) (by unfold Env.ok; exact List.forall_mem_cons.2 ⟨F_tale_Hello_sound, List.forall_mem_cons.2 ⟨F_tale_Events_sound h_pow10, fun p h => by cases h⟩⟩) (A := F_wlvlaw28_first_ann) (f := 12) (fn := Tryz.f12) (s := F_wlvlaw28_first_sig) Tryz.func12
  rw [F_wlvlaw28_first_text] at h
  exact h
theorem F_wlvref_Bytes_sound {T : Tab} : SoundFn Tryz.prog T 104 F_wlvref_Bytes_sig ⟨F_wlvref_Bytes⟩ := by
  have h := fn_sound (T := T) (E := F_wlvref_Bytes_env) (by unfold Env.ok; exact fun p h => by cases h) (A := F_wlvref_Bytes_ann) (f := 104) (fn := Tryz.f104) (s := F_wlvref_Bytes_sig) Tryz.func104
  rw [F_wlvref_Bytes_text] at h
  exact h
theorem F_wlvref18_sameUser_sound {T : Tab} : SoundFn Tryz.prog T 59 F_wlvref18_sameUser_sig ⟨F_wlvref18_sameUser⟩ := by
  have h := fn_sound (T := T) (E := F_wlvref18_sameUser_env) (by unfold Env.ok; exact List.forall_mem_cons.2 ⟨F_wlvref_Bytes_sound, fun p h => by cases h⟩) (A := F_wlvref18_sameUser_ann) (f := 59) (fn := Tryz.f59) (s := F_wlvref18_sameUser_sig) Tryz.func59
  rw [F_wlvref18_sameUser_text] at h
  exact h
theorem F_wlvref18_Same_sound {T : Tab} : SoundFn Tryz.prog T 29 F_wlvref18_Same_sig ⟨F_wlvref18_Same⟩ := by
  have h := fn_sound (T := T) (E := F_wlvref18_Same_env) (by unfold Env.ok; exact List.forall_mem_cons.2 ⟨F_wlvref18_sameUser_sound, fun p h => by cases h⟩) (A := F_wlvref18_Same_ann) (f := 29) (fn := Tryz.f29) (s := F_wlvref18_Same_sig) Tryz.func29
  rw [F_wlvref18_Same_text] at h
  exact h
theorem F_conf_copied_sound {T : Tab} : SoundFn Tryz.prog T 66 F_conf_copied_sig ⟨F_conf_copied⟩ := by
  have h := fn_sound (T := T) (E := F_conf_copied_env) (by unfold Env.ok; exact List.forall_mem_cons.2 ⟨F_bytes_Clone_sound, List.forall_mem_cons.2 ⟨F_slices_Clone_conf_Rule_conf_Rule_sound, fun p h => by cases h⟩⟩) (A := F_conf_copied_ann) (f := 66) (fn := Tryz.f66) (s := F_conf_copied_sig) Tryz.func66
  rw [F_conf_copied_text] at h
  exact h
theorem F_conf_Find_sound {T : Tab} : SoundFn Tryz.prog T 34 F_conf_Find_sig ⟨F_conf_Find⟩ := by
  have h := fn_sound (T := T) (E := F_conf_Find_env) (by unfold Env.ok; exact List.forall_mem_cons.2 ⟨F_conf_copied_sound, fun p h => by cases h⟩) (A := F_conf_Find_ann) (f := 34) (fn := Tryz.f34) (s := F_conf_Find_sig) Tryz.func34
  rw [F_conf_Find_text] at h
  exact h
theorem F_tale_words_sound {T : Tab} (h_pow10 : tab_pow10 ∈ T) : SoundFn Tryz.prog T 80 F_tale_words_sig ⟨F_tale_words⟩ := by
  have h := fn_sound (T := T) (E := F_tale_words_env) (by unfold Env.ok; exact List.forall_mem_cons.2 ⟨F_strconv_Itoa_sound h_pow10, fun p h => by cases h⟩) (A := F_tale_words_ann) (f := 80) (fn := Tryz.f80) (s := F_tale_words_sig) Tryz.func80
  rw [F_tale_words_text] at h
  exact h
theorem F_tale_Lines_sound {T : Tab} (h_pow10 : tab_pow10 ∈ T) : SoundFn Tryz.prog T 39 F_tale_Lines_sig ⟨F_tale_Lines⟩ := by
  have h := fn_sound (T := T) (E := F_tale_Lines_env) (by unfold Env.ok; exact List.forall_mem_cons.2 ⟨F_strconv_Itoa_sound h_pow10, List.forall_mem_cons.2 ⟨F_conf_Hex_sound, List.forall_mem_cons.2 ⟨F_sha_Salted_sound, List.forall_mem_cons.2 ⟨F_tale_words_sound h_pow10, fun p h => by cases h⟩⟩⟩⟩) (A := F_tale_Lines_ann) (f := 39) (fn := Tryz.f39) (s := F_tale_Lines_sig) Tryz.func39
  rw [F_tale_Lines_text] at h
  exact h
theorem F_wlvlaw28_TaleLines_sound {T : Tab} (h_pow10 : tab_pow10 ∈ T) (h_maxlen : has_maxlen T) (h_errs : has_errs T) : SoundFn Tryz.prog T 11 F_wlvlaw28_TaleLines_sig ⟨F_wlvlaw28_TaleLines⟩ := by
  have h := fn_sound (T := T) (E := F_wlvlaw28_TaleLines_env) (by unfold Env.ok; exact List.forall_mem_cons.2 ⟨F_wlvlaw28_first_sound h_pow10, List.forall_mem_cons.2 ⟨F_conf_Parse_sound h_maxlen h_pow10 h_errs, List.forall_mem_cons.2 ⟨F_wlvref18_Same_sound, List.forall_mem_cons.2 ⟨F_conf_Find_sound, List.forall_mem_cons.2 ⟨F_tale_Lines_sound h_pow10, fun p h => by cases h⟩⟩⟩⟩⟩) (A := F_wlvlaw28_TaleLines_ann) (f := 11) (fn := Tryz.f11) (s := F_wlvlaw28_TaleLines_sig) Tryz.func11
  rw [F_wlvlaw28_TaleLines_text] at h
  exact h
end Go.Proofs.YtgfmfgombmpodaaGreatDoor
namespace Go.Proofs.YtgfmfgombmpodaaGreatDoor
namespace Pv
set_option linter.unusedVariables false
section
variable {S R T : Type} {body : S → Option (R ⊕ S)} {s s' : S} {r r' : R}
theorem iter_uniq : ∀ {n m : Nat} {s : S}, iterC body n s = some r → iterC body m s = some r' → r = r'
  | 0, _, _, h, _ => by cases h
  | _ + 1, 0, _, _, h => by cases h
  | n + 1, m + 1, s, h, k => by
    unfold iterC at h k
    split at h
    · cases h
    · rename_i x hx
      rw [hx] at k
      injection h with h; injection k with k
      exact h.symm.trans k
    · rename_i x hx
      rw [hx] at k
      exact iter_uniq h k
theorem loop_of_iter {n : Nat} (h : iterC body n s = some r) : loopC body s = some r := by
  unfold loopC
  have hex : ∃ r n, iterC body n s = some r := ⟨r, n, h⟩
  rw [dif_pos hex]
  obtain ⟨m, hm⟩ := hex.choose_spec
  rw [iter_uniq hm h]
theorem iter_of_loop' (h : loopC body s = some r) : ∃ n, iterC body n s = some r := by
  unfold loopC at h
  split at h
  · rename_i hex
    injection h with h
    obtain ⟨n, hn⟩ := hex.choose_spec
    exact ⟨n, by rw [hn, h]⟩
  · cases h
theorem loop_inl (h : body s = some (.inl r)) : loopC body s = some r := loop_of_iter (n := 1) (by unfold iterC; rw [h])
theorem loop_inr (h : body s = some (.inr s')) (k : loopC body s' = some r) : loopC body s = some r := by
  obtain ⟨n, hn⟩ := iter_of_loop' k
  exact loop_of_iter (n := n + 1) (by unfold iterC; rw [h]; exact hn)
theorem loop_inv {I : S → Prop} {m : S → Nat} {Q : R → Prop} (h : ∀ s, I s → (∃ r, body s = some (.inl r) ∧ Q r) ∨ ∃ s', body s = some (.inr s') ∧ I s' ∧ m s' < m s) (s : S) (hs : I s) : ∃ r, loopC body s = some r ∧ Q r := by
  have key : ∀ n s, m s < n → I s → ∃ r, loopC body s = some r ∧ Q r := fun n => by
    induction n with
    | zero => intro s hn; omega
    | succ n ih =>
      intro s hn hs
      rcases h s hs with ⟨r, h1, h2⟩ | ⟨s', h1, h2, h3⟩
      · exact ⟨r, loop_inl h1, h2⟩
      · obtain ⟨r, k1, k2⟩ := ih s' (by omega) h2
        exact ⟨r, loop_inr h1 k1, k2⟩
  exact key _ s (Nat.lt_succ_self _) hs
theorem join_inl {A : Option (R ⊕ S)} {B : S → Option R} (h : A = some (.inl r)) : joinC A B = some r := by rw [h]; rfl
theorem join_inr {A : Option (R ⊕ S)} {B : S → Option R} (h : A = some (.inr s)) : joinC A B = B s := by rw [h]; rfl
theorem getI_of {α : Type} {l : List α} {j : Int} (h0 : 0 ≤ j) (h1 : j < l.length) : ∃ x, getI l j = some x ∧ l[j.toNat]? = some x := by
  have hlt : j.toNat < l.length := by omega
  exact ⟨l[j.toNat], by unfold getI; rw [decide_eq_true h0]; simp [hlt], by simp [hlt]⟩
theorem wrap_in {x : Int} (h0 : -9223372036854775808 ≤ x) (h1 : x ≤ 9223372036854775807) : IntKind.i64.wrap x = x := by
  show (if (true && decide (x % 18446744073709551616 ≥ 9223372036854775808)) = true then x % 18446744073709551616 - 18446744073709551616 else x % 18446744073709551616) = x
  simp only [Bool.true_and, decide_eq_true_eq]
  split <;> omega
end
end Pv
end Go.Proofs.YtgfmfgombmpodaaGreatDoor
namespace Go.Proofs.YtgfmfgombmpodaaGreatDoor
open Pv
set_option linter.unusedVariables false
theorem gI_nat {α : Type} {s : List α} {i : Nat} {x : α} (h : s[i]? = some x) : getI s (i : Int) = some x := by
  unfold getI
  rw [decide_eq_true (Int.natCast_nonneg i), Int.toNat_natCast, h]; rfl
theorem gI_D {s : List Int} {i : Nat} (h : i < s.length) : getI s (i : Int) = some (s.getD i 0) := gI_nat (by rw [List.getD_eq_getElem?_getD, List.getElem?_eq_getElem h]; rfl)
noncomputable def okF (p : Int) (b : Bool) (x : Int) : Bool := match iterC (F_sha_fraction_L4 p b) 38 (0, 68719476736) with
  | some (.inr y) => IntKind.u32.wrap y == x
  | _ => false
theorem frac_of {p x : Int} {b : Bool} (h : okF p b x = true) : F_sha_fraction p b = some x := by
  unfold okF at h
  unfold F_sha_fraction
  cases hi : iterC (F_sha_fraction_L4 p b) 38 (0, 68719476736) with
  | none => rw [hi] at h; cases h
  | some r =>
    rw [hi] at h
    cases r with
    | inl r => cases h
    | inr y =>
      rw [join_inr (loop_of_iter hi)]
      unfold F_sha_fraction_J2
      dsimp only
      rw [beq_iff_eq.1 h]
theorem tab_K : (List.range 64).all (fun i => okF (P64.getD i 0) true (K64.getD i 0)) = true := by kernel_rfl
theorem tab_H : (List.range 8).all (fun i => okF (P64.getD i 0) false (H8.getD i 0)) = true := by kernel_rfl
theorem frac_K {i : Nat} (h : i < 64) : F_sha_fraction (P64.getD i 0) true = some (K64.getD i 0) := frac_of (List.all_eq_true.1 tab_K i (List.mem_range.2 h))
theorem frac_H {i : Nat} (h : i < 8) : F_sha_fraction (P64.getD i 0) false = some (H8.getD i 0) := frac_of (List.all_eq_true.1 tab_H i (List.mem_range.2 h))
theorem ck_t {α : Type} {b : Bool} (h : b = true) (x : Option α) : chk b x = x := by rw [h]; rfl
def rr (x : Int) (k : Nat) : Int := bits .or .u32 (IntKind.u32.wrap (x * 2 ^ (32 - k))) (Int.fdiv x (2 ^ k))
theorem tab_rot : (List.range 31).all (fun j => (bits .and .u64 (IntKind.u64.wrap (-((j + 1 : Nat) : Int))) 31 == ((31 - j : Nat) : Int)) && (IntKind.u64.wrap (32 - ((31 - j : Nat) : Int)) == ((j + 1 : Nat) : Int)) && (IntKind.u64.wrap ((j + 1 : Nat) : Int) == ((j + 1 : Nat) : Int)) && (IntKind.u64.wrap (IntKind.i64.wrap (32 - ((j + 1 : Nat) : Int))) == ((31 - j : Nat) : Int))) = true := by kernel_rfl
theorem rot_eq (x : Int) {k : Nat} (h1 : 1 ≤ k) (h2 : k ≤ 31) {m : Int} (hm : m = -(k : Int)) : F_math_bits_RotateLeft32 x m = some (rr x k) := by
  subst hm
  have := List.all_eq_true.1 tab_rot (k - 1) (List.mem_range.2 (by omega))
  rw [show k - 1 + 1 = k by omega] at this
  simp only [Bool.and_eq_true, beq_iff_eq] at this
  obtain ⟨⟨⟨t1, t2⟩, _⟩, _⟩ := this
  unfold F_math_bits_RotateLeft32 rr
  rw [t1, t2, ck_t (by first | rfl | (simp; done) | (simp; omega)), ck_t (by first | rfl | (simp; done) | (simp; omega)), Int.toNat_natCast, Int.toNat_natCast, Nat.min_eq_left (by omega), Nat.min_eq_left (by omega), show 31 - (k - 1) = 32 - k by omega]
def word (m : List Int) (i : Nat) : Int := bits .or .u32 (bits .or .u32 (bits .or .u32 (IntKind.u32.wrap ((IntKind.u32.wrap (m.getD (4 * i) 0)) * 2 ^ 24)) (IntKind.u32.wrap ((IntKind.u32.wrap (m.getD (4 * i + 1) 0)) * 2 ^ 16))) (IntKind.u32.wrap ((IntKind.u32.wrap (m.getD (4 * i + 2) 0)) * 2 ^ 8))) (IntKind.u32.wrap (m.getD (4 * i + 3) 0))
def s0 (x : Int) : Int := bits .xor .u32 (bits .xor .u32 (rr x 7) (rr x 18)) (Int.fdiv x (2 ^ 3))
def s1 (x : Int) : Int := bits .xor .u32 (bits .xor .u32 (rr x 17) (rr x 19)) (Int.fdiv x (2 ^ 10))
def wNew (w : List Int) (i : Nat) : Int := IntKind.u32.wrap (IntKind.u32.wrap (IntKind.u32.wrap (w.getD (i - 16) 0 + w.getD (i - 7) 0) + s0 (w.getD (i - 15) 0)) + s1 (w.getD (i - 2) 0))
def wAt (m : List Int) : Nat → List Int
  | 0 => List.replicate 64 0
  | i + 1 => (wAt m i).set i (if i < 16 then word m i else wNew (wAt m i) i)
theorem wAt_len (m : List Int) : ∀ i, (wAt m i).length = 64
  | 0 => rfl
  | i + 1 => by
    show ((wAt m i).set i _).length = 64
    rw [List.length_set, wAt_len m i]
theorem w_sha (m h : List Int) (hm : m.length = 64) : ∀ k i : Nat, i + k = 64 → loopC (F_sha_state_turned_L3 m) ((i : Int), h, wAt m i) = some (.inr (h, wAt m 64))
  | 0, i, hk => by
    refine loop_inl ?_
    unfold F_sha_state_turned_L3
    dsimp only
    rw [decide_eq_false (show ¬ (i : Int) < 64 by omega), cond_false, show i = 64 by omega]
  | k + 1, i, hk => by
    have hw := wAt_len m i
    refine loop_inr (s' := (((i + 1 : Nat) : Int), h, wAt m (i + 1))) ?_ (w_sha m h hm k (i + 1) (by omega))
    unfold F_sha_state_turned_L3
    dsimp only
    rw [decide_eq_true (show (i : Int) < 64 by omega), cond_true]
    show _ = some (Sum.inr (((i + 1 : Nat) : Int), h, (wAt m i).set i (if i < 16 then word m i else wNew (wAt m i) i)))
    rw [wrap_in (x := (i : Int) + 1) (by omega) (by omega)]
    by_cases h16 : i < 16
    · rw [decide_eq_true (show (i : Int) < 16 by omega), cond_true, if_pos h16, wrap_in (x := 4 * (i : Int)) (by omega) (by omega), wrap_in (x := 4 * (i : Int) + 1) (by omega) (by omega), wrap_in (x := 4 * (i : Int) + 2) (by omega) (by omega), wrap_in (x := 4 * (i : Int) + 3) (by omega) (by omega), show 4 * (i : Int) = ((4 * i : Nat) : Int) by omega, show ((4 * i : Nat) : Int) + 1 = ((4 * i + 1 : Nat) : Int) by omega, show ((4 * i : Nat) : Int) + 2 = ((4 * i + 2 : Nat) : Int) by omega, show ((4 * i : Nat) : Int) + 3 = ((4 * i + 3 : Nat) : Int) by omega,
        gI_D (by omega), Option.bind_some, gI_D (by omega), Option.bind_some, gI_D (by omega), Option.bind_some, gI_D (by omega), Option.bind_some, ck_t (by first | rfl | (simp; done) | (simp; omega)), ck_t (by first | rfl | (simp; done) | (simp; omega)), Int.toNat_natCast]
      rfl
    · rw [decide_eq_false (show ¬ (i : Int) < 16 by omega), cond_false, if_neg h16, wrap_in (x := (i : Int) - 15) (by omega) (by omega), wrap_in (x := (i : Int) - 2) (by omega) (by omega), wrap_in (x := (i : Int) - 16) (by omega) (by omega), wrap_in (x := (i : Int) - 7) (by omega) (by omega), show (i : Int) - 15 = ((i - 15 : Nat) : Int) by omega, show (i : Int) - 2 = ((i - 2 : Nat) : Int) by omega, show (i : Int) - 16 = ((i - 16 : Nat) : Int) by omega, show (i : Int) - 7 = ((i - 7 : Nat) : Int) by omega,
        ck_t (by first | rfl | (simp; done) | (simp; omega)), gI_D (by omega), Option.bind_some, ck_t (by first | rfl | (simp; done) | (simp; omega)), gI_D (by omega), Option.bind_some, ck_t (by first | rfl | (simp; done) | (simp; omega)), gI_D (by omega), Option.bind_some, ck_t (by first | rfl | (simp; done) | (simp; omega)), gI_D (by omega), Option.bind_some,
        rot_eq _ (k := 7) (by omega) (by omega) (m := -7) rfl, Option.bind_some, rot_eq _ (k := 18) (by omega) (by omega) (m := -18) rfl, Option.bind_some, rot_eq _ (k := 17) (by omega) (by omega) (m := -17) rfl, Option.bind_some, rot_eq _ (k := 19) (by omega) (by omega) (m := -19) rfl, Option.bind_some, ck_t (by first | rfl | (simp; done) | (simp; omega)), ck_t (by first | rfl | (simp; done) | (simp; omega)), Int.toNat_natCast]
      rfl
def rnd (k w : Int) : List Int → List Int
  | [a, b, c, d, e, f, g, h] =>
    let x := IntKind.u32.wrap (IntKind.u32.wrap (IntKind.u32.wrap (IntKind.u32.wrap (h + bits .xor .u32 (bits .xor .u32 (rr e 6) (rr e 11)) (rr e 25)) + bits .xor .u32 g (bits .and .u32 e (bits .xor .u32 f g))) + k) + w)
    let y := IntKind.u32.wrap (bits .xor .u32 (bits .xor .u32 (rr a 2) (rr a 13)) (rr a 22) + bits .or .u32 (bits .and .u32 a (bits .or .u32 b c)) (bits .and .u32 b c))
    [IntKind.u32.wrap (x + y), a, b, c, IntKind.u32.wrap (d + x), e, f, g]
  | v => v
theorem eight {v : List Int} (h : v.length = 8) : ∃ a b c d e f g i, v = [a, b, c, d, e, f, g, i] := by
  match v, h with
  | [a, b, c, d, e, f, g, i], _ => exact ⟨a, b, c, d, e, f, g, i, rfl⟩
theorem rnd_len (k w : Int) {v : List Int} (h : v.length = 8) : (rnd k w v).length = 8 := by
  obtain ⟨a, b, c, d, e, f, g, i, rfl⟩ := eight h
  rfl
def vAt (kk w h : List Int) : Nat → List Int
  | 0 => h
  | i + 1 => rnd (kk.getD i 0) (w.getD i 0) (vAt kk w h i)
theorem vAt_len {kk w h : List Int} (hh : h.length = 8) : ∀ i, (vAt kk w h i).length = 8
  | 0 => hh
  | i + 1 => rnd_len _ _ (vAt_len hh i)
theorem v_sha (kk w h : List Int) (hk : kk.length = 64) (hw : w.length = 64) (hh : h.length = 8) : ∀ k i : Nat, i + k = 64 → loopC (F_sha_state_turned_L15 kk) ((i : Int), h, w, vAt kk w h i) = some (.inr (h, vAt kk w h 64))
  | 0, i, hi => by
    refine loop_inl ?_
    unfold F_sha_state_turned_L15
    dsimp only
    rw [decide_eq_false (show ¬ (i : Int) < 64 by omega), cond_false, show i = 64 by omega]
  | k + 1, i, hi => by
    refine loop_inr (s' := (((i + 1 : Nat) : Int), h, w, vAt kk w h (i + 1))) ?_ (v_sha kk w h hk hw hh k (i + 1) (by omega))
    show _ = some (Sum.inr (((i + 1 : Nat) : Int), h, w, rnd (kk.getD i 0) (w.getD i 0) (vAt kk w h i)))
    obtain ⟨a, b, c, d, e, f, g, z, hv⟩ := eight (vAt_len (kk := kk) (w := w) hh i)
    rw [hv]
    unfold F_sha_state_turned_L15
    dsimp only
    have g0 : getI [a, b, c, d, e, f, g, z] (0 : Int) = some a := rfl
    have g1 : getI [a, b, c, d, e, f, g, z] (1 : Int) = some b := rfl
    have g2 : getI [a, b, c, d, e, f, g, z] (2 : Int) = some c := rfl
    have g3 : getI [a, b, c, d, e, f, g, z] (3 : Int) = some d := rfl
    have g4 : getI [a, b, c, d, e, f, g, z] (4 : Int) = some e := rfl
    have g5 : getI [a, b, c, d, e, f, g, z] (5 : Int) = some f := rfl
    have g6 : getI [a, b, c, d, e, f, g, z] (6 : Int) = some g := rfl
    have g7 : getI [a, b, c, d, e, f, g, z] (7 : Int) = some z := rfl
    rw [decide_eq_true (show (i : Int) < 64 by omega), cond_true, g0, g1, g2, g3, g4, g5, g6, g7, gI_D (show i < kk.length by omega), gI_D (show i < w.length by omega)]
    simp only [Option.bind_some]
    rw [rot_eq e (k := 6) (by omega) (by omega) (m := -6) rfl, rot_eq e (k := 11) (by omega) (by omega) (m := -11) rfl, rot_eq e (k := 25) (by omega) (by omega) (m := -25) rfl, rot_eq a (k := 2) (by omega) (by omega) (m := -2) rfl, rot_eq a (k := 13) (by omega) (by omega) (m := -13) rfl, rot_eq a (k := 22) (by omega) (by omega) (m := -22) rfl]
    simp only [Option.bind_some]
    rw [ck_t (by first | rfl | (simp; done) | (simp; omega)), wrap_in (x := (i : Int) + 1) (by omega) (by omega)]
    rfl
def addV (h v : List Int) : List Int := (List.range 8).map fun i => IntKind.u32.wrap (h.getD i 0 + v.getD i 0)
def blk (kk h m : List Int) : List Int := addV h (vAt kk (wAt m 64) h 64)
theorem addV_len (h v : List Int) : (addV h v).length = 8 := rfl
theorem add_sha {h v : List Int} (hh : h.length = 8) (hv : v.length = 8) : loopC F_sha_state_turned_L24 (0, h, v) = some (addV h v) := by
  obtain ⟨a, b, c, d, e, f, g, z, rfl⟩ := eight hh
  obtain ⟨a2, b2, c2, d2, e2, f2, g2, z2, rfl⟩ := eight hv
  exact loop_of_iter (n := 9) rfl
theorem turned_sha {h m kk : List Int} (hh : h.length = 8) (hm : m.length = 64) (hk : kk.length = 64) : F_sha_state_turned h m kk = some (blk kk h m) := by
  unfold F_sha_state_turned
  refine (join_inr (w_sha m h hm 64 0 rfl)).trans ?_
  unfold F_sha_state_turned_J1
  dsimp only
  refine (join_inr (v_sha kk (wAt m 64) h hk (wAt_len m 64) hh 64 0 rfl)).trans ?_
  unfold F_sha_state_turned_J13
  dsimp only
  exact add_sha hh (vAt_len hh 64)
end Go.Proofs.YtgfmfgombmpodaaGreatDoor
