/- Proved: wlvlaw3.ShaApart returns true for every input that the row lets in, and leaves its arguments as they were; no condition beyond the row's own. -/
import Derived.Test.YtgcgdfjldeihkaaQa
import Derived.Test.YtgcgdfjldeihkaaRows
import Derived.Test.YtgcgdfjldeihkaaChecked
import Derived.Test.YtgcgdfjldeihkaaQl
import Derived.Test.YtgcgdfjldeihkaaQShaS
import Derived.Test.YtgcgdfjldeihkaaQShaL
namespace Go.Proofs.Ytgcgdfjldeihkaa.shaApart
open Go.ChangeShapes Go.WideShapes Go.ChangeAt Go.RowKit Pv
open Go.ChangeMaps (open_string shut_string)
set_option linter.unusedVariables false
theorem own : ownKnob Try.prog.godebug = none := by kernel_rfl
theorem lay0 : lay Try.prog 40 22 = some (.sl (.int .u8)) := by kernel_rfl
theorem ag0 : isAg Try.prog 22 = false := by kernel_rfl
theorem lay1 : lay Try.prog 40 22 = some (.sl (.int .u8)) := by kernel_rfl
theorem ag1 : isAg Try.prog 22 = false := by kernel_rfl
theorem lay2 : lay Try.prog 40 3 = some (.int .i64) := by kernel_rfl
theorem ag2 : isAg Try.prog 3 = false := by kernel_rfl
theorem lay3 : lay Try.prog 40 5 = some (.int .u8) := by kernel_rfl
theorem ag3 : isAg Try.prog 5 = false := by kernel_rfl
theorem ex : (exitSt F_wlvlaw3_ShaApart_sig true).map (fun st => st.φ 0) = some (.w false [.d .bool true]) := by kernel_rfl
theorem app (y0 : Ty.D (.sl (.int .u8))) (y1 : Ty.D (.sl (.int .u8))) (y2 : Ty.D (.int .i64)) (y3 : Ty.D (.int .u8)) (b3 : (Lit.int .u8 y3).wf = true) : appF (α := Bool) [(.sl (.int .u8)), (.sl (.int .u8)), (.int .i64), (.int .u8)] F_wlvlaw3_ShaApart [⟨(.sl (.int .u8)), y0⟩, ⟨(.sl (.int .u8)), y1⟩, ⟨(.int .i64), y2⟩, ⟨(.int .u8), y3⟩] = some true :=
  appF_c (appF_c (appF_c (appF_c (appF_n (ShaApart_true y0 y1 y2 y3 b3)))))
set_option maxRecDepth 100000 in
theorem lifted (os : Os) (started : os.Started) (H : Type) (enc : TypeId × Value → H) :
    ReturnsInHanded {} Try.checked os 3 .any (Rows.shaApartSpec.pre6 enc Try.prog Try.f3 Rows.shaApartRow.domain false) (Rows.shaApartSpec.post enc Try.prog Try.f3 false true false false) := by
  refine returnsInHanded_of_change (C := Try.checked) own started (by kernel_rfl) Try.func3
    (ChangeSpec.witness6 (enc := enc) (C := Try.checked) false ⟨#[], #[.slice none 0 0, .slice none 0 0, .int .i64 0, .int .u8 0], []⟩ 8 (by kernel_rfl) (by kernel_rfl) (by kernel_rfl) (by kernel_rfl)) ?_
  intro W base args ds gs before hval0 hW hcnd _
  have hval : ∀ (j : Nat) t v, Try.f3.params[j]? = some t → args[j]? = some v → Value.okWide Try.prog W .any base t v := hval0
  have hW' := hW
  obtain ⟨p, q, hA0, hV, rfl, hfz, hnd⟩ := hW
  have hA : DataW.TrodAll enc Try.prog W 0 (fun _ => true) true Try.f3.params.toList args.toList ds p := hA0
  rw [Try.params3] at hA hval
  obtain ⟨v0, vs0, d0, ds0, p0, q0, hargs, rfl, rfl, h0, r0⟩ := trodAll_cons hA
  obtain ⟨v1, vs1, d1, ds1, p1, q1, rfl, rfl, rfl, h1, r1⟩ := trodAll_cons r0
  obtain ⟨v2, vs2, d2, ds2, p2, q2, rfl, rfl, rfl, h2, r2⟩ := trodAll_cons r1
  obtain ⟨v3, vs3, d3, ds3, p3, q3, rfl, rfl, rfl, h3, r3⟩ := trodAll_cons r2
  obtain ⟨rfl, rfl, rfl⟩ := trodAll_nil r3
  obtain rfl : args = #[v0, v1, v2, v3] := by cases args; simp_all
  obtain ⟨rfl, rfl⟩ := trodVars_none hV
  obtain ⟨y0, cs0, k0, m0⟩ := arg_open (c00_cell W) lay0 (hval 0 22 v0 rfl rfl) h0
  rw [ag0] at m0
  obtain ⟨y1, cs1, k1, m1⟩ := arg_open (c00_cell W) lay1 (hval 1 22 v1 rfl rfl) h1
  rw [ag1] at m1
  obtain ⟨y2, cs2, k2, m2⟩ := arg_open (c00_cell W) lay2 (hval 2 3 v2 rfl rfl) h2
  rw [ag2] at m2
  obtain ⟨y3, cs3, k3, m3⟩ := arg_open (c00_cell W) lay3 (hval 3 5 v3 rfl rfl) h3
  rw [ag3] at m3
  refine (law_calls (P := Try.prog) (W := W) (T := []) (fun p hp => by cases hp) (s := F_wlvlaw3_ShaApart_sig) (al := [⟨false, flat (.sl (.int .u8)) y0, v0⟩, ⟨false, flat (.sl (.int .u8)) y1, v1⟩, ⟨false, flat (.int .i64) y2, v2⟩, ⟨false, flat (.int .u8) y3, v3⟩]) (y := true) F_wlvlaw3_ShaApart_sound rfl rfl Try.func3 (List.forall_mem_cons.2 ⟨Arg.mk_ok k0 m0, List.forall_mem_cons.2 ⟨Arg.mk_ok k1 m1, List.forall_mem_cons.2 ⟨Arg.mk_ok k2 m2, List.forall_mem_cons.2 ⟨Arg.mk_ok k3 m3, fun a h => by cases h⟩⟩⟩⟩) (app y0 y1 y2 y3 k3.2) fun st' h => ?_).mono fun e W' ⟨he, hb⟩ => ?_
  · have e := ex
    rw [h] at e
    injection e
  · subst he
    exact ⟨_, rfl, law_post rfl rfl Try.underlying4 (by kernel_rfl) (by kernel_rfl) hW' rfl rfl rfl hb⟩
theorem over : Rows.shaApartRow.holds Try.pinned (OpenSpec.ofChange Rows.shaApartSpec) :=
  OpenClaim.holds_of_wide 3 Try.f3 rfl rfl rfl rfl rfl rfl rfl ⟨rfl, rfl, rfl, rfl, rfl⟩ rfl rfl rfl rfl rfl (by kernel_rfl) Try.func3 (by kernel_rfl)
    (of_decide_eq_true (by kernel_rfl)) (by unfold Func.isWrapper; first | (rw [if_pos (by decide +kernel)]; kernel_rfl) | (rw [if_neg (by decide +kernel)]; exact ⟨rfl, rfl⟩))
    (fun os started H enc _ => lifted os started H enc)
theorem proved : Rows.ShaApartSaid :=
  over
#print axioms proved
end Go.Proofs.Ytgcgdfjldeihkaa.shaApart
