/- Proved: wlvlaw3.ShaBlocks returns true for every input that the row lets in, and leaves its arguments as they were; no condition beyond the row's own. -/
import Derived.Test.YtgcgdfjldeihkaaQa
import Derived.Test.YtgcgdfjldeihkaaRows
import Derived.Test.YtgcgdfjldeihkaaChecked
import Derived.Test.YtgcgdfjldeihkaaQl
import Derived.Test.YtgcgdfjldeihkaaQShaS
import Derived.Test.YtgcgdfjldeihkaaQShaB
namespace Go.Proofs.Ytgcgdfjldeihkaa.shaBlocks
open Go.ChangeShapes Go.WideShapes Go.ChangeAt Go.RowKit Pv
open Go.ChangeMaps (open_string shut_string)
set_option linter.unusedVariables false
theorem own : ownKnob Try.prog.godebug = none := by kernel_rfl
theorem lay0 : lay Try.prog 40 3 = some (.int .i64) := by kernel_rfl
theorem ag0 : isAg Try.prog 3 = false := by kernel_rfl
theorem lay1 : lay Try.prog 40 5 = some (.int .u8) := by kernel_rfl
theorem ag1 : isAg Try.prog 5 = false := by kernel_rfl
theorem ex : (exitSt F_wlvlaw3_ShaBlocks_sig true).map (fun st => st.φ 0) = some (.w false [.d .bool true]) := by kernel_rfl
theorem app (y0 : Ty.D (.int .i64)) (y1 : Ty.D (.int .u8)) : appF (α := Bool) [(.int .i64), (.int .u8)] F_wlvlaw3_ShaBlocks [⟨(.int .i64), y0⟩, ⟨(.int .u8), y1⟩] = some true :=
  appF_c (appF_c (appF_n (ShaBlocks_true y0 y1)))
set_option maxRecDepth 100000 in
theorem lifted (os : Os) (started : os.Started) (H : Type) (enc : TypeId × Value → H) :
    ReturnsInHanded {} Try.checked os 4 .any (Rows.shaBlocksSpec.pre6 enc Try.prog Try.f4 Rows.shaBlocksRow.domain false) (Rows.shaBlocksSpec.post enc Try.prog Try.f4 false true false false) := by
  refine returnsInHanded_of_change (C := Try.checked) own started (by kernel_rfl) Try.func4
    (ChangeSpec.witness6 (enc := enc) (C := Try.checked) false ⟨#[], #[.int .i64 0, .int .u8 0], []⟩ 8 (by kernel_rfl) (by kernel_rfl) (by kernel_rfl) (by kernel_rfl)) ?_
  intro W base args ds gs before hval0 hW hcnd _
  have hval : ∀ (j : Nat) t v, Try.f4.params[j]? = some t → args[j]? = some v → Value.okWide Try.prog W .any base t v := hval0
  have hW' := hW
  obtain ⟨p, q, hA0, hV, rfl, hfz, hnd⟩ := hW
  have hA : DataW.TrodAll enc Try.prog W 0 (fun _ => true) true Try.f4.params.toList args.toList ds p := hA0
  rw [Try.params4] at hA hval
  obtain ⟨v0, vs0, d0, ds0, p0, q0, hargs, rfl, rfl, h0, r0⟩ := trodAll_cons hA
  obtain ⟨v1, vs1, d1, ds1, p1, q1, rfl, rfl, rfl, h1, r1⟩ := trodAll_cons r0
  obtain ⟨rfl, rfl, rfl⟩ := trodAll_nil r1
  obtain rfl : args = #[v0, v1] := by cases args; simp_all
  obtain ⟨rfl, rfl⟩ := trodVars_none hV
  obtain ⟨y0, cs0, k0, m0⟩ := arg_open (c00_cell W) lay0 (hval 0 3 v0 rfl rfl) h0
  rw [ag0] at m0
  obtain ⟨y1, cs1, k1, m1⟩ := arg_open (c00_cell W) lay1 (hval 1 5 v1 rfl rfl) h1
  rw [ag1] at m1
  refine (law_calls (P := Try.prog) (W := W) (T := []) (fun p hp => by cases hp) (s := F_wlvlaw3_ShaBlocks_sig) (al := [⟨false, flat (.int .i64) y0, v0⟩, ⟨false, flat (.int .u8) y1, v1⟩]) (y := true) F_wlvlaw3_ShaBlocks_sound rfl rfl Try.func4 (List.forall_mem_cons.2 ⟨Arg.mk_ok k0 m0, List.forall_mem_cons.2 ⟨Arg.mk_ok k1 m1, fun a h => by cases h⟩⟩) (app y0 y1) fun st' h => ?_).mono fun e W' ⟨he, hb⟩ => ?_
  · have e := ex
    rw [h] at e
    injection e
  · subst he
    exact ⟨_, rfl, law_post rfl rfl Try.underlying4 (by kernel_rfl) (by kernel_rfl) hW' rfl rfl rfl hb⟩
theorem over : Rows.shaBlocksRow.holds Try.pinned (OpenSpec.ofChange Rows.shaBlocksSpec) :=
  OpenClaim.holds_of_wide 4 Try.f4 rfl rfl rfl rfl rfl rfl rfl ⟨rfl, rfl, rfl, rfl, rfl⟩ rfl rfl rfl rfl rfl (by kernel_rfl) Try.func4 (by kernel_rfl)
    (of_decide_eq_true (by kernel_rfl)) (by unfold Func.isWrapper; first | (rw [if_pos (by decide +kernel)]; kernel_rfl) | (rw [if_neg (by decide +kernel)]; exact ⟨rfl, rfl⟩))
    (fun os started H enc _ => lifted os started H enc)
theorem proved : Rows.ShaBlocksSaid :=
  over
#print axioms proved
end Go.Proofs.Ytgcgdfjldeihkaa.shaBlocks
