/- Proved: wlvlaw13.SetsTells returns true for every input that the row lets in, and leaves its arguments as they were; no condition beyond the row's own. -/
import Derived.Test.YtnlekdpnjphmfaaVcx
import Derived.Test.YtnlekdpnjphmfaaSets
import Derived.Test.YtnlekdpnjphmfaaVco
namespace Go.Proofs.Ytnlekdpnjphmfaa.setsTells
open Go.ChangeShapes Go.WideShapes Go.ChangeAt Go.RowKit Vc
open Go.ChangeMaps (open_string shut_string)
set_option linter.unusedVariables false
theorem own : ownKnob Try.prog.godebug = none := by kernel_rfl
theorem walk (w : World) (a b c d e f : Int) (l : List (Int × Int)) (p : Option Addr) (n m : Nat) (_ : ∀ x ∈ [a, b, c, d, e, f], (Lit.int .i64 x).wf = true) (hl : l.length = n) (_ : n ≤ m) (_ : m < 2 ^ 63) (hr : RowsAt w p 2 (l.map enc2))
    (_ : ∀ p ∈ l, (Lit.int .i64 p.1).wf = true ∧ (Lit.int .i64 p.2).wf = true) :
    CallsV Try.prog 4 #[.agg #[.int .i64 a, .int .i64 b, .int .i64 c, .int .i64 d, .int .i64 e, .int .i64 f], .slice p n m] w fun r v' => r = .bool true ∧ Ext w v' :=
  c_SetsTells (a, b, c, d, e, f) l p n m w hl hr

theorem len6 : ∀ (l : List Int), l.length = 6 → ∃ b0 b1 b2 b3 b4 b5 : Int, l = [b0, b1, b2, b3, b4, b5]
  | [b0, b1, b2, b3, b4, b5], _ => ⟨b0, b1, b2, b3, b4, b5, rfl⟩
set_option maxRecDepth 100000 in
theorem lifted (os : Os) (started : os.Started) (H : Type) (enc : TypeId × Value → H) :
    ReturnsInHanded {} Try.checked os 4 .any (Rows.setsTellsSpec.pre6 enc Try.prog Try.f4 Rows.setsTellsRow.domain false) (Rows.setsTellsSpec.post enc Try.prog Try.f4 false true false false) := by
  refine returnsInHanded_of_change (C := Try.checked) own started (by kernel_rfl) Try.func4
    (ChangeSpec.witness6 (enc := enc) (C := Try.checked) false ⟨#[], #[.agg #[.int .i64 0, .int .i64 0, .int .i64 0, .int .i64 0, .int .i64 0, .int .i64 0], .slice none 0 0], []⟩ 8 (by kernel_rfl) (by kernel_rfl) (by kernel_rfl) (by kernel_rfl)) ?_
  intro W base args ds gs before hval0 hW hcnd _
  have hval : ∀ (j : Nat) t v, Try.f4.params[j]? = some t → args[j]? = some v → Value.okWide Try.prog W .any base t v := hval0
  have hW' := hW
  obtain ⟨p, q, hA0, hV, rfl, hfz, hnd⟩ := hW
  have hA : DataW.TrodAll enc Try.prog W 0 (fun _ => true) true Try.f4.params.toList args.toList ds p := hA0
  rw [Try.params4] at hA hval
  obtain ⟨v0, vs0, d0, ds0, p0, q0, hargs, rfl, rfl, h0, r0⟩ := trodAll_cons hA
  obtain ⟨v1, vs1, d1, ds1, p1, q1, rfl, rfl, rfl, h1, r1⟩ := trodAll_cons r0
  obtain ⟨rfl, rfl, rfl⟩ := trodAll_nil r1
  obtain rfl : args = #[v0, v1] := by cases args; simp_all
  obtain ⟨rfl, rfl⟩ := trodVars_none hV
  obtain ⟨l0, rfl, z0, w0⟩ := open_struct_ints Try.underlying32 (by kernel_rfl) (fun i hi => by
    match i, hi with
    | 0, _ => exact ⟨_, rfl, Try.underlying3, rfl, by kernel_rfl⟩
    | 1, _ => exact ⟨_, rfl, Try.underlying3, rfl, by kernel_rfl⟩
    | 2, _ => exact ⟨_, rfl, Try.underlying3, rfl, by kernel_rfl⟩
    | 3, _ => exact ⟨_, rfl, Try.underlying3, rfl, by kernel_rfl⟩
    | 4, _ => exact ⟨_, rfl, Try.underlying3, rfl, by kernel_rfl⟩
    | 5, _ => exact ⟨_, rfl, Try.underlying3, rfl, by kernel_rfl⟩
    | i + 6, h => exact absurd h (by simp)) (hval 0 32 v0 rfl rfl) h0
  obtain ⟨a0_0, a0_1, a0_2, a0_3, a0_4, a0_5, rfl⟩ := len6 l0 z0
  obtain ⟨a1, n1, c1, l1, rfl, hl1, hc1, hm1, hr1, w1⟩ := open_pairs Try.underlying33 Try.underlying41 Try.underlying3 Try.underlying3 (by kernel_rfl) rfl rfl (by kernel_rfl) (by kernel_rfl) (hval 1 33 v1 rfl rfl) h1
  refine (walk W a0_0 a0_1 a0_2 a0_3 a0_4 a0_5 l1 a1 n1 c1 w0 hl1 hc1 hm1 hr1 w1).below.mono fun e W' ⟨r, he, hr, hb⟩ => ?_
  subst he; subst hr
  exact ⟨_, rfl, law_post rfl rfl Try.underlying4 (by kernel_rfl) (by kernel_rfl) hW' rfl rfl rfl hb⟩
theorem over : Rows.setsTellsRow.holds Try.pinned (OpenSpec.ofChange Rows.setsTellsSpec) :=
  OpenClaim.holds_of_wide 4 Try.f4 rfl rfl rfl rfl rfl rfl rfl ⟨rfl, rfl, rfl, rfl, rfl⟩ rfl rfl rfl rfl rfl (by kernel_rfl) Try.func4 (by kernel_rfl)
    (of_decide_eq_true (by kernel_rfl)) (by unfold Func.isWrapper; first | (rw [if_pos (by decide +kernel)]; kernel_rfl) | (rw [if_neg (by decide +kernel)]; exact ⟨rfl, rfl⟩))
    (fun os started H enc _ => lifted os started H enc)
theorem proved : Rows.SetsTellsSaid :=
  over
#print axioms proved
end Go.Proofs.Ytnlekdpnjphmfaa.setsTells
