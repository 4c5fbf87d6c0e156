/- Proved: wlvlaw28.TaleParts returns true for every input that the row lets in, and leaves its arguments as they were; no condition beyond the row's own. The card's tie is the given one. -/
import Derived.Test.YtgfmfgombmpodaaDoorTalePartsM4
import Derived.Test.YtgfmfgombmpodaaDoorRows
import Derived.Test.YtgfmfgombmpodaaDoorCards
import Derived.Test.YtgfmfgombmpodaaDoorTie
import Derived.Test.YtgfmfgombmpodaaDoorChecked
import Derived.LaidMore
import Derived.Lay
import Derived.SevenTiedAt
import Derived.Stop.Joined
namespace Go.Proofs.YtgfmfgombmpodaaDoor.taleParts
open Go.ChangeShapes Go.WideShapes Go.ChangeAt Go.RowKit Pv
open Go.ChangeMaps (open_string shut_string)
set_option linter.unusedVariables false
theorem own : ownKnob Tryd.prog.godebug = none := by kernel_rfl
theorem lay0 : lay Tryd.prog 40 22 = some (.sl (.int .u8)) := by kernel_rfl
theorem ag0 : isAg Tryd.prog 22 = false := by kernel_rfl
theorem lay1 : lay Tryd.prog 40 22 = some (.sl (.int .u8)) := by kernel_rfl
theorem ag1 : isAg Tryd.prog 22 = false := by kernel_rfl
theorem ex : (exitSt F_wlvlaw28_TaleParts_sig true).map (fun st => st.φ 0) = some (.w false [.d .bool true]) := by kernel_rfl
theorem app (y0 : Ty.D (.sl (.int .u8))) (y1 : Ty.D (.sl (.int .u8))) (b0 : ∀ x ∈ (show List Int from y0), 0 ≤ x ∧ x < 256) (b1 : ∀ x ∈ (show List Int from y1), 0 ≤ x ∧ x < 256) : appF (α := Bool) [(.sl (.int .u8)), (.sl (.int .u8))] F_wlvlaw28_TaleParts [⟨(.sl (.int .u8)), y0⟩, ⟨(.sl (.int .u8)), y1⟩] = some true :=
  appF_c (appF_c (appF_n (TaleParts_true y0 y1 b0 b1)))
set_option maxRecDepth 100000 in
theorem lifted (os : Os) (started : os.Started) (H : Type) (enc : TypeId × Value → H) :
    ReturnsInHanded {} Tryd.checked os 4 .any (fun w args => (Rows.talePartsSpec.pre enc Tryd.prog Tryd.f4 [] false w args ∧ laidMetH Tryd.prog Rows.talePartsRow.laid w) ∧ sizedMet enc Tryd.prog Tryd.f4 (OpenSpec.ofChange Rows.talePartsSpec) false w args)
      (Rows.talePartsSpec.post enc Tryd.prog Tryd.f4 false true false false) := by
  refine returnsInHanded_of_change_and (C := Tryd.checked) (X := fun w _ => laidMetH Tryd.prog Rows.talePartsRow.laid w) (fun _ _ _ hh h => h.of_heap hh) own started (by kernel_rfl) Tryd.func4
    (ChangeSpec.witness_shaped (enc := enc) (C := Tryd.checked) (os := os) (X := fun w _ => laidMetH Tryd.prog Rows.talePartsRow.laid w) false (World.laidAll Tryd.prog os Rows.talePartsRow.laid) #[.slice none 0 0, .slice none 0 0] 8 (World.laidAll_os _ _ _)
      (World.shaped_of_ZipB (by kernel_rfl) (by kernel_rfl)) (by kernel_rfl) (by kernel_rfl) (by kernel_rfl)
      (by rw [MakeChecks.laidMetH_plain _ _ _ (by kernel_rfl)]; exact laidMet_laidAll _ (by kernel_rfl) (by kernel_rfl))) ?_
  intro W base args ds gs before hval0 hW hcnd _ hL _
  have hval : ∀ (j : Nat) t v, Tryd.f4.params[j]? = some t → args[j]? = some v → Value.okWide Tryd.prog W .any base t v := hval0
  have hW' := hW
  obtain ⟨p, q, hA0, hV, rfl, hfz, hnd⟩ := hW
  have hA : DataW.TrodAll enc Tryd.prog W 0 (fun _ => true) true Tryd.f4.params.toList args.toList ds p := hA0
  rw [Tryd.params4] at hA hval
  obtain ⟨v0, vs0, d0, ds0, p0, q0, hargs, rfl, rfl, h0, r0⟩ := trodAll_cons hA
  obtain ⟨v1, vs1, d1, ds1, p1, q1, rfl, rfl, rfl, h1, r1⟩ := trodAll_cons r0
  obtain ⟨rfl, rfl, rfl⟩ := trodAll_nil r1
  obtain rfl : args = #[v0, v1] := by cases args; simp_all
  obtain ⟨rfl, rfl⟩ := trodVars_none hV
  obtain ⟨y0, cs0, k0, m0⟩ := arg_open (c00_cell W) lay0 (hval 0 22 v0 rfl rfl) h0
  rw [ag0] at m0
  obtain ⟨y1, cs1, k1, m1⟩ := arg_open (c00_cell W) lay1 (hval 1 22 v1 rfl rfl) h1
  rw [ag1] at m1
  refine (law_calls (P := Tryd.prog) (W := W) (T := [tab_pow10]) (List.forall_mem_cons.2 ⟨tab_laid (name := "internal/strconv.uint64pow10") hL (by kernel_rfl) (g := 0) (by kernel_rfl) (t := 123) (e := 93) (n := 20) (by kernel_rfl) (by kernel_rfl) (by kernel_rfl) (by kernel_rfl) (by kernel_rfl), fun p hp => by cases hp⟩) (s := F_wlvlaw28_TaleParts_sig) (al := [⟨false, flat (.sl (.int .u8)) y0, v0⟩, ⟨false, flat (.sl (.int .u8)) y1, v1⟩]) (y := true) (F_wlvlaw28_TaleParts_sound (T := [tab_pow10]) (List.mem_cons_self)) rfl rfl Tryd.func4 (List.forall_mem_cons.2 ⟨Arg.mk_ok k0 m0, List.forall_mem_cons.2 ⟨Arg.mk_ok k1 m1, fun a h => by cases h⟩⟩) (app y0 y1 (bytes_of k0) (bytes_of k1)) fun st' h => ?_).mono fun e W' ⟨he, hb⟩ => ?_
  · have e := ex
    rw [h] at e
    injection e
  · subst he
    exact ⟨_, rfl, law_post rfl rfl Tryd.underlying4 (by kernel_rfl) (by kernel_rfl) hW' rfl rfl rfl hb⟩
theorem over : Rows.talePartsRow.holds Tryd.pinned (OpenSpec.ofChange Rows.talePartsSpec) :=
  OpenClaim.holds_of_wide 4 Tryd.f4 rfl rfl rfl rfl rfl rfl rfl ⟨rfl, rfl, rfl, rfl, rfl⟩ rfl rfl rfl rfl rfl (by kernel_rfl) Tryd.func4 (by kernel_rfl)
    (of_decide_eq_true (by kernel_rfl)) (by unfold Func.isWrapper; first | (rw [if_pos (by decide +kernel)]; kernel_rfl) | (rw [if_neg (by decide +kernel)]; exact ⟨rfl, rfl⟩))
    (fun os started H enc _ => lifted os started H enc)
theorem proved : Rows.TalePartsCardSaid :=
  Claim7.holds_tied_plain_at .later [] _ _ _ _ over (fun _ h => by cases h) (by kernel_rfl) (fun _ h => by cases h) taleParts_row_tie rfl ⟨rfl, rfl⟩ (by kernel_rfl) rfl
    (fun f fn hf hfn => by
      obtain rfl : f = 4 := Option.some.inj ((show Tryd.prog.funcNamed "wayleave/wlvlaw28.TaleParts" = some 4 by kernel_rfl).symm.trans hf) |>.symm
      obtain rfl : fn = Tryd.f4 := (Option.some.inj (Tryd.func4.symm.trans hfn)).symm
      exact ⟨by kernel_rfl, fun j t ht => by
        rw [Tryd.params4] at ht
        have hm : t ∈ [22, 22] := by simpa using Array.mem_of_getElem? ht
        have hall : ([22, 22].all fun u => !Tryd.prog.wantsStandIn u) = true := by kernel_rfl
        exact (show Tryd.prog.wantsStandIn t = false by simpa using List.all_eq_true.1 hall t hm)⟩)
    (by kernel_rfl)
#print axioms proved
end Go.Proofs.YtgfmfgombmpodaaDoor.taleParts
