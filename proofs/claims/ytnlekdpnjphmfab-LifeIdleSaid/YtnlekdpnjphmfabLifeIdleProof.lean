/- Proved: wlvlaw14.LifeIdle returns true for every input that the row lets in, and leaves its arguments as they were; no condition beyond the row's own. -/
import Derived.Test.YtnlekdpnjphmfabVcx
import Derived.Test.YtnlekdpnjphmfabLifeI
namespace Go.Proofs.Ytnlekdpnjphmfab.lifeIdle
open Go.ChangeShapes Go.WideShapes Go.ChangeAt Go.RowKit Vc
open Go.ChangeMaps (open_string shut_string)
set_option linter.unusedVariables false
theorem own : ownKnob Try.prog.godebug = none := by kernel_rfl
theorem walk (a0 : Int) (a1 : Bool) (w0 : (Lit.int .i64 a0).wf = true) (w : World) : CallsV Try.prog 3 #[.int .i64 a0, .bool a1] w fun r v' => r = .bool true ∧ Ext w v' :=
  (c_wlvlaw14_LifeIdle a0 a1 w).mono fun r v' h => ⟨h.1.trans (by rw [idle14]; rfl), h.2⟩
set_option maxRecDepth 100000 in
theorem lifted (os : Os) (started : os.Started) (H : Type) (enc : TypeId × Value → H) :
    ReturnsInHanded {} Try.checked os 3 .any (Rows.lifeIdleSpec.pre6 enc Try.prog Try.f3 Rows.lifeIdleRow.domain false) (Rows.lifeIdleSpec.post enc Try.prog Try.f3 false true false false) := by
  refine returnsInHanded_of_change (C := Try.checked) own started (by kernel_rfl) Try.func3
    (ChangeSpec.witness6 (enc := enc) (C := Try.checked) false ⟨#[], #[.int .i64 0, .bool false], []⟩ 8 (by kernel_rfl) (by kernel_rfl) (by kernel_rfl) (by kernel_rfl)) ?_
  intro W base args ds gs before hval0 hW hcnd _
  have hval : ∀ (j : Nat) t v, Try.f3.params[j]? = some t → args[j]? = some v → Value.okWide Try.prog W .any base t v := hval0
  have hW' := hW
  obtain ⟨p, q, hA0, hV, rfl, hfz, hnd⟩ := hW
  have hA : DataW.TrodAll enc Try.prog W 0 (fun _ => true) true Try.f3.params.toList args.toList ds p := hA0
  rw [Try.params3] at hA hval
  obtain ⟨v0, vs0, d0, ds0, p0, q0, hargs, rfl, rfl, h0, r0⟩ := trodAll_cons hA
  obtain ⟨v1, vs1, d1, ds1, p1, q1, rfl, rfl, rfl, h1, r1⟩ := trodAll_cons r0
  obtain ⟨rfl, rfl, rfl⟩ := trodAll_nil r1
  obtain rfl : args = #[v0, v1] := by cases args; simp_all
  obtain ⟨rfl, rfl⟩ := trodVars_none hV
  obtain ⟨a0, rfl, rfl, rfl, w0⟩ := open_int Try.underlying3 (hval 0 3 v0 rfl rfl) h0
  obtain ⟨a1, rfl, rfl, rfl⟩ := open_bool Try.underlying4 (hval 1 4 v1 rfl rfl) h1
  refine (walk a0 a1 w0 W).below.mono fun e W' ⟨r, he, hr, hb⟩ => ?_
  subst he; subst hr
  exact ⟨_, rfl, law_post rfl rfl Try.underlying4 (by kernel_rfl) (by kernel_rfl) hW' rfl rfl rfl hb⟩
theorem over : Rows.lifeIdleRow.holds Try.pinned (OpenSpec.ofChange Rows.lifeIdleSpec) :=
  OpenClaim.holds_of_wide 3 Try.f3 rfl rfl rfl rfl rfl rfl rfl ⟨rfl, rfl, rfl, rfl, rfl⟩ rfl rfl rfl rfl rfl (by kernel_rfl) Try.func3 (by kernel_rfl)
    (of_decide_eq_true (by kernel_rfl)) (by unfold Func.isWrapper; first | (rw [if_pos (by decide +kernel)]; kernel_rfl) | (rw [if_neg (by decide +kernel)]; exact ⟨rfl, rfl⟩))
    (fun os started H enc _ => lifted os started H enc)
theorem proved : Rows.LifeIdleSaid :=
  over
#print axioms proved
end Go.Proofs.Ytnlekdpnjphmfab.lifeIdle
