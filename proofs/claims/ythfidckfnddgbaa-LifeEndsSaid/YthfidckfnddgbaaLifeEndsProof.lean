/- Proved: wlvlaw14.LifeEnds returns true for every input that the row lets in, and leaves its arguments as they were; no condition beyond the row's own. -/
import Derived.Test.YthfidckfnddgbaaQa
import Derived.Test.YthfidckfnddgbaaRows
import Derived.Test.YthfidckfnddgbaaChecked
import Derived.Test.YthfidckfnddgbaaQLife
import Derived.Test.YthfidckfnddgbaaQLifeP
import Derived.Test.YthfidckfnddgbaaQLifeEndsS
namespace Go.Proofs.Ythfidckfnddgbaa.lifeEnds
open Go.ChangeShapes Go.WideShapes Go.ChangeAt Go.RowKit Pv
open Go.ChangeMaps (open_string shut_string)
set_option linter.unusedVariables false
theorem own : ownKnob Try.prog.godebug = none := by kernel_rfl
theorem lay0 : lay Try.prog 40 22 = some (.sl (.int .i64)) := by kernel_rfl
theorem ag0 : isAg Try.prog 22 = false := by kernel_rfl
theorem ex : (exitSt F_wlvlaw14_LifeEnds_sig true).map (fun st => st.φ 0) = some (.w false [.d .bool true]) := by kernel_rfl
theorem app (y0 : Ty.D (.sl (.int .i64))) : appF (α := Bool) [(.sl (.int .i64))] F_wlvlaw14_LifeEnds [⟨(.sl (.int .i64)), y0⟩] = some true :=
  appF_c (appF_n (ends y0))
set_option maxRecDepth 100000 in
theorem lifted (os : Os) (started : os.Started) (H : Type) (enc : TypeId × Value → H) :
    ReturnsInHanded {} Try.checked os 3 .any (Rows.lifeEndsSpec.pre6 enc Try.prog Try.f3 Rows.lifeEndsRow.domain false) (Rows.lifeEndsSpec.post enc Try.prog Try.f3 false true false false) := by
  refine returnsInHanded_of_change (C := Try.checked) own started (by kernel_rfl) Try.func3
    (ChangeSpec.witness6 (enc := enc) (C := Try.checked) false ⟨#[], #[.slice none 0 0], []⟩ 8 (by kernel_rfl) (by kernel_rfl) (by kernel_rfl) (by kernel_rfl)) ?_
  intro W base args ds gs before hval0 hW hcnd _
  have hval : ∀ (j : Nat) t v, Try.f3.params[j]? = some t → args[j]? = some v → Value.okWide Try.prog W .any base t v := hval0
  have hW' := hW
  obtain ⟨p, q, hA0, hV, rfl, hfz, hnd⟩ := hW
  have hA : DataW.TrodAll enc Try.prog W 0 (fun _ => true) true Try.f3.params.toList args.toList ds p := hA0
  rw [Try.params3] at hA hval
  obtain ⟨v0, vs0, d0, ds0, p0, q0, hargs, rfl, rfl, h0, r0⟩ := trodAll_cons hA
  obtain ⟨rfl, rfl, rfl⟩ := trodAll_nil r0
  obtain rfl : args = #[v0] := by cases args; simp_all
  obtain ⟨rfl, rfl⟩ := trodVars_none hV
  obtain ⟨y0, cs0, k0, m0⟩ := arg_open (c00_cell W) lay0 (hval 0 22 v0 rfl rfl) h0
  rw [ag0] at m0
  refine (law_calls (P := Try.prog) (W := W) (s := F_wlvlaw14_LifeEnds_sig) (al := [⟨false, flat (.sl (.int .i64)) y0, v0⟩]) (y := true) F_wlvlaw14_LifeEnds_sound rfl rfl Try.func3 (List.forall_mem_cons.2 ⟨Arg.mk_ok k0 m0, fun a h => by cases h⟩) (app y0) fun st' h => ?_).mono fun e W' ⟨he, hb⟩ => ?_
  · have e := ex
    rw [h] at e
    injection e
  · subst he
    exact ⟨_, rfl, law_post rfl rfl Try.underlying4 (by kernel_rfl) (by kernel_rfl) hW' rfl rfl rfl hb⟩
theorem over : Rows.lifeEndsRow.holds Try.pinned (OpenSpec.ofChange Rows.lifeEndsSpec) :=
  OpenClaim.holds_of_wide 3 Try.f3 rfl rfl rfl rfl rfl rfl rfl ⟨rfl, rfl, rfl, rfl, rfl⟩ rfl rfl rfl rfl rfl (by kernel_rfl) Try.func3 (by kernel_rfl)
    (of_decide_eq_true (by kernel_rfl)) (by unfold Func.isWrapper; first | (rw [if_pos (by decide +kernel)]; kernel_rfl) | (rw [if_neg (by decide +kernel)]; exact ⟨rfl, rfl⟩))
    (fun os started H enc _ => lifted os started H enc)
theorem proved : Rows.LifeEndsSaid :=
  over
#print axioms proved
end Go.Proofs.Ythfidckfnddgbaa.lifeEnds
