/- Proved: wlvlaw13.SetsFault returns true for every input that the row lets in, and leaves its arguments as they were; no condition beyond the row's own. -/
import Derived.Test.YtnlekdpnjphmfaaVcx
import Derived.Test.YtnlekdpnjphmfaaSetsF
namespace Go.Proofs.Ytnlekdpnjphmfaa.setsFault
open Go.ChangeShapes Go.WideShapes Go.ChangeAt Go.RowKit Vc
open Go.ChangeMaps (open_string shut_string)
set_option linter.unusedVariables false
theorem own : ownKnob Try.prog.godebug = none := by kernel_rfl
theorem walk (w : World) (l : List (Int × Int)) (p : Option Addr) (n m : Nat) (b : Int) (hl : l.length = n) (hn : n ≤ m) (_ : m < 2 ^ 63) (hr : RowsAt w p 2 (l.map enc2)) (_ : ∀ p ∈ l, (Lit.int .i64 p.1).wf = true ∧ (Lit.int .i64 p.2).wf = true)
    (_ : (Lit.int .i64 b).wf = true) : CallsV Try.prog 7 #[.slice p n m, .int .i64 b] w fun r v' => r = .bool true ∧ Ext w v' :=
  c_SetsFault l p n m b w hl hn hr

set_option maxRecDepth 100000 in
theorem lifted (os : Os) (started : os.Started) (H : Type) (enc : TypeId × Value → H) :
    ReturnsInHanded {} Try.checked os 7 .any (Rows.setsFaultSpec.pre6 enc Try.prog Try.f7 Rows.setsFaultRow.domain false) (Rows.setsFaultSpec.post enc Try.prog Try.f7 false true false false) := by
  refine returnsInHanded_of_change (C := Try.checked) own started (by kernel_rfl) Try.func7
    (ChangeSpec.witness6 (enc := enc) (C := Try.checked) false ⟨#[], #[.slice none 0 0, .int .i64 0], []⟩ 8 (by kernel_rfl) (by kernel_rfl) (by kernel_rfl) (by kernel_rfl)) ?_
  intro W base args ds gs before hval0 hW hcnd _
  have hval : ∀ (j : Nat) t v, Try.f7.params[j]? = some t → args[j]? = some v → Value.okWide Try.prog W .any base t v := hval0
  have hW' := hW
  obtain ⟨p, q, hA0, hV, rfl, hfz, hnd⟩ := hW
  have hA : DataW.TrodAll enc Try.prog W 0 (fun _ => true) true Try.f7.params.toList args.toList ds p := hA0
  rw [Try.params7] at hA hval
  obtain ⟨v0, vs0, d0, ds0, p0, q0, hargs, rfl, rfl, h0, r0⟩ := trodAll_cons hA
  obtain ⟨v1, vs1, d1, ds1, p1, q1, rfl, rfl, rfl, h1, r1⟩ := trodAll_cons r0
  obtain ⟨rfl, rfl, rfl⟩ := trodAll_nil r1
  obtain rfl : args = #[v0, v1] := by cases args; simp_all
  obtain ⟨rfl, rfl⟩ := trodVars_none hV
  obtain ⟨a0, n0, c0, l0, rfl, hl0, hc0, hm0, hr0, w0⟩ := open_pairs Try.underlying33 Try.underlying41 Try.underlying3 Try.underlying3 (by kernel_rfl) rfl rfl (by kernel_rfl) (by kernel_rfl) (hval 0 33 v0 rfl rfl) h0
  obtain ⟨a1, rfl, rfl, rfl, w1⟩ := open_int Try.underlying3 (hval 1 3 v1 rfl rfl) h1
  refine (walk W l0 a0 n0 c0 a1 hl0 hc0 hm0 hr0 w0 w1).below.mono fun e W' ⟨r, he, hr, hb⟩ => ?_
  subst he; subst hr
  exact ⟨_, rfl, law_post rfl rfl Try.underlying4 (by kernel_rfl) (by kernel_rfl) hW' rfl rfl rfl hb⟩
theorem over : Rows.setsFaultRow.holds Try.pinned (OpenSpec.ofChange Rows.setsFaultSpec) :=
  OpenClaim.holds_of_wide 7 Try.f7 rfl rfl rfl rfl rfl rfl rfl ⟨rfl, rfl, rfl, rfl, rfl⟩ rfl rfl rfl rfl rfl (by kernel_rfl) Try.func7 (by kernel_rfl)
    (of_decide_eq_true (by kernel_rfl)) (by unfold Func.isWrapper; first | (rw [if_pos (by decide +kernel)]; kernel_rfl) | (rw [if_neg (by decide +kernel)]; exact ⟨rfl, rfl⟩))
    (fun os started H enc _ => lifted os started H enc)
theorem proved : Rows.SetsFaultSaid :=
  over
#print axioms proved
end Go.Proofs.Ytnlekdpnjphmfaa.setsFault
