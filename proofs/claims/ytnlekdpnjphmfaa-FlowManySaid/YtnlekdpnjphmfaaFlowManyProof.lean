/- Proved: wlvlaw12.FlowMany returns true for every input that the row lets in, and leaves its arguments as they were; no condition beyond the row's own. -/
import Derived.Test.YtnlekdpnjphmfaaVcx
import Derived.Test.YtnlekdpnjphmfaaFlowB
namespace Go.Proofs.Ytnlekdpnjphmfaa.flowMany
open Go.ChangeShapes Go.WideShapes Go.ChangeAt Go.RowKit Vc
open Go.ChangeMaps (open_string shut_string)
set_option linter.unusedVariables false
theorem own : ownKnob Try.prog.godebug = none := by kernel_rfl
theorem walk (w : World) (a0 a1 : Int) (l : List Int) (p : Option Addr) (n m : Nat) (_ : (Lit.int .i64 a0).wf = true) (_ : (Lit.int .i64 a1).wf = true) (hl : l.length = n) (_ : n ≤ m) (_ : m < 2 ^ 63) (hr : RowsAt w p 1 (l.map enc1)) (_ : ∀ x ∈ l, (Lit.int .i64 x).wf = true) :
    CallsV Try.prog 3 #[.int .i64 a0, .int .i64 a1, .slice p n m] w fun r v' => r = .bool true ∧ Ext w v' :=
  c_FlowMany a0 a1 l p n m w hl hr

set_option maxRecDepth 100000 in
theorem lifted (os : Os) (started : os.Started) (H : Type) (enc : TypeId × Value → H) :
    ReturnsInHanded {} Try.checked os 3 .any (Rows.flowManySpec.pre6 enc Try.prog Try.f3 Rows.flowManyRow.domain false) (Rows.flowManySpec.post enc Try.prog Try.f3 false true false false) := by
  refine returnsInHanded_of_change (C := Try.checked) own started (by kernel_rfl) Try.func3
    (ChangeSpec.witness6 (enc := enc) (C := Try.checked) false ⟨#[], #[.int .i64 0, .int .i64 0, .slice none 0 0], []⟩ 8 (by kernel_rfl) (by kernel_rfl) (by kernel_rfl) (by kernel_rfl)) ?_
  intro W base args ds gs before hval0 hW hcnd _
  have hval : ∀ (j : Nat) t v, Try.f3.params[j]? = some t → args[j]? = some v → Value.okWide Try.prog W .any base t v := hval0
  have hW' := hW
  obtain ⟨p, q, hA0, hV, rfl, hfz, hnd⟩ := hW
  have hA : DataW.TrodAll enc Try.prog W 0 (fun _ => true) true Try.f3.params.toList args.toList ds p := hA0
  rw [Try.params3] at hA hval
  obtain ⟨v0, vs0, d0, ds0, p0, q0, hargs, rfl, rfl, h0, r0⟩ := trodAll_cons hA
  obtain ⟨v1, vs1, d1, ds1, p1, q1, rfl, rfl, rfl, h1, r1⟩ := trodAll_cons r0
  obtain ⟨v2, vs2, d2, ds2, p2, q2, rfl, rfl, rfl, h2, r2⟩ := trodAll_cons r1
  obtain ⟨rfl, rfl, rfl⟩ := trodAll_nil r2
  obtain rfl : args = #[v0, v1, v2] := by cases args; simp_all
  obtain ⟨rfl, rfl⟩ := trodVars_none hV
  obtain ⟨a0, rfl, rfl, rfl, w0⟩ := open_int Try.underlying3 (hval 0 3 v0 rfl rfl) h0
  obtain ⟨a1, rfl, rfl, rfl, w1⟩ := open_int Try.underlying3 (hval 1 3 v1 rfl rfl) h1
  obtain ⟨a2, n2, c2, l2, rfl, hl2, hc2, hm2, hr2, w2⟩ := open_ints Try.underlying22 Try.underlying3 (by kernel_rfl) (hval 2 22 v2 rfl rfl) h2
  refine (walk W a0 a1 l2 a2 n2 c2 w0 w1 hl2 hc2 hm2 hr2 w2).below.mono fun e W' ⟨r, he, hr, hb⟩ => ?_
  subst he; subst hr
  exact ⟨_, rfl, law_post rfl rfl Try.underlying4 (by kernel_rfl) (by kernel_rfl) hW' rfl rfl rfl hb⟩
theorem over : Rows.flowManyRow.holds Try.pinned (OpenSpec.ofChange Rows.flowManySpec) :=
  OpenClaim.holds_of_wide 3 Try.f3 rfl rfl rfl rfl rfl rfl rfl ⟨rfl, rfl, rfl, rfl, rfl⟩ rfl rfl rfl rfl rfl (by kernel_rfl) Try.func3 (by kernel_rfl)
    (of_decide_eq_true (by kernel_rfl)) (by unfold Func.isWrapper; first | (rw [if_pos (by decide +kernel)]; kernel_rfl) | (rw [if_neg (by decide +kernel)]; exact ⟨rfl, rfl⟩))
    (fun os started H enc _ => lifted os started H enc)
theorem proved : Rows.FlowManySaid :=
  over
#print axioms proved
end Go.Proofs.Ytnlekdpnjphmfaa.flowMany
