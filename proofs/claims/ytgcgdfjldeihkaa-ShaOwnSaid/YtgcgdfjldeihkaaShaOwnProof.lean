/- Proved: wlvlaw3.ShaOwn returns true for every input that the row lets in, and leaves its arguments as they were; no condition beyond the row's own. -/
import Derived.Test.YtgcgdfjldeihkaaQa
import Derived.Test.YtgcgdfjldeihkaaRows
import Derived.Test.YtgcgdfjldeihkaaChecked
import Derived.Test.YtgcgdfjldeihkaaQl
import Derived.Test.YtgcgdfjldeihkaaQShaS
import Derived.Test.YtgcgdfjldeihkaaQShaL
namespace Go.Proofs.Ytgcgdfjldeihkaa.shaOwn
open Go.ChangeShapes Go.WideShapes Go.ChangeAt Go.RowKit Pv
open Go.ChangeMaps (open_string shut_string)
set_option linter.unusedVariables false
theorem own : ownKnob Try.prog.godebug = none := by kernel_rfl
theorem lay0 : lay Try.prog 40 22 = some (.sl (.int .u8)) := by kernel_rfl
theorem ag0 : isAg Try.prog 22 = false := by kernel_rfl
theorem lay1 : lay Try.prog 40 22 = some (.sl (.int .u8)) := by kernel_rfl
theorem ag1 : isAg Try.prog 22 = false := by kernel_rfl
theorem ex : (exitSt F_wlvlaw3_ShaOwn_sig true).map (fun st => st.φ 0) = some (.w false [.d .bool true]) := by kernel_rfl
theorem app (y0 : Ty.D (.sl (.int .u8))) (y1 : Ty.D (.sl (.int .u8))) (b0 : ∀ x ∈ (show List Int from y0), 0 ≤ x ∧ x < 256) : appF (α := Bool) [(.sl (.int .u8)), (.sl (.int .u8))] F_wlvlaw3_ShaOwn [⟨(.sl (.int .u8)), y0⟩, ⟨(.sl (.int .u8)), y1⟩] = some true :=
  appF_c (appF_c (appF_n (ShaOwn_true y0 y1 b0)))
set_option maxRecDepth 100000 in
theorem lifted (os : Os) (started : os.Started) (H : Type) (enc : TypeId × Value → H) :
    ReturnsInHanded {} Try.checked os 6 .any (Rows.shaOwnSpec.pre6 enc Try.prog Try.f6 Rows.shaOwnRow.domain false) (Rows.shaOwnSpec.post enc Try.prog Try.f6 false true false false) := by
  refine returnsInHanded_of_change (C := Try.checked) own started (by kernel_rfl) Try.func6
    (ChangeSpec.witness6 (enc := enc) (C := Try.checked) false ⟨#[], #[.slice none 0 0, .slice none 0 0], []⟩ 8 (by kernel_rfl) (by kernel_rfl) (by kernel_rfl) (by kernel_rfl)) ?_
  intro W base args ds gs before hval0 hW hcnd _
  have hval : ∀ (j : Nat) t v, Try.f6.params[j]? = some t → args[j]? = some v → Value.okWide Try.prog W .any base t v := hval0
  have hW' := hW
  obtain ⟨p, q, hA0, hV, rfl, hfz, hnd⟩ := hW
  have hA : DataW.TrodAll enc Try.prog W 0 (fun _ => true) true Try.f6.params.toList args.toList ds p := hA0
  rw [Try.params6] at hA hval
  obtain ⟨v0, vs0, d0, ds0, p0, q0, hargs, rfl, rfl, h0, r0⟩ := trodAll_cons hA
  obtain ⟨v1, vs1, d1, ds1, p1, q1, rfl, rfl, rfl, h1, r1⟩ := trodAll_cons r0
  obtain ⟨rfl, rfl, rfl⟩ := trodAll_nil r1
  obtain rfl : args = #[v0, v1] := by cases args; simp_all
  obtain ⟨rfl, rfl⟩ := trodVars_none hV
  obtain ⟨y0, cs0, k0, m0⟩ := arg_open (c00_cell W) lay0 (hval 0 22 v0 rfl rfl) h0
  rw [ag0] at m0
  obtain ⟨y1, cs1, k1, m1⟩ := arg_open (c00_cell W) lay1 (hval 1 22 v1 rfl rfl) h1
  rw [ag1] at m1
  refine (law_calls (P := Try.prog) (W := W) (T := []) (fun p hp => by cases hp) (s := F_wlvlaw3_ShaOwn_sig) (al := [⟨false, flat (.sl (.int .u8)) y0, v0⟩, ⟨false, flat (.sl (.int .u8)) y1, v1⟩]) (y := true) F_wlvlaw3_ShaOwn_sound rfl rfl Try.func6 (List.forall_mem_cons.2 ⟨Arg.mk_ok k0 m0, List.forall_mem_cons.2 ⟨Arg.mk_ok k1 m1, fun a h => by cases h⟩⟩) (app y0 y1 (bytes_of k0)) fun st' h => ?_).mono fun e W' ⟨he, hb⟩ => ?_
  · have e := ex
    rw [h] at e
    injection e
  · subst he
    exact ⟨_, rfl, law_post rfl rfl Try.underlying4 (by kernel_rfl) (by kernel_rfl) hW' rfl rfl rfl hb⟩
theorem over : Rows.shaOwnRow.holds Try.pinned (OpenSpec.ofChange Rows.shaOwnSpec) :=
  OpenClaim.holds_of_wide 6 Try.f6 rfl rfl rfl rfl rfl rfl rfl ⟨rfl, rfl, rfl, rfl, rfl⟩ rfl rfl rfl rfl rfl (by kernel_rfl) Try.func6 (by kernel_rfl)
    (of_decide_eq_true (by kernel_rfl)) (by unfold Func.isWrapper; first | (rw [if_pos (by decide +kernel)]; kernel_rfl) | (rw [if_neg (by decide +kernel)]; exact ⟨rfl, rfl⟩))
    (fun os started H enc _ => lifted os started H enc)
theorem proved : Rows.ShaOwnSaid :=
  over
#print axioms proved
end Go.Proofs.Ytgcgdfjldeihkaa.shaOwn
