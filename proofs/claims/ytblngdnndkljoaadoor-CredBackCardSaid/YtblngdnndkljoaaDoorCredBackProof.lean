/- Proved: wlvlaw17.CredBack returns true for every input that the row lets in, and leaves its arguments as they were; no condition beyond the row's own. The card's tie is the given one. -/
import Derived.Test.YtblngdnndkljoaaDoorCredBackM5
import Derived.Test.YtblngdnndkljoaaDoorRows
import Derived.Test.YtblngdnndkljoaaDoorCards
import Derived.Test.YtblngdnndkljoaaDoorTie
import Derived.Test.YtblngdnndkljoaaDoorChecked
import Derived.LaidMore
import Derived.Lay
import Derived.SevenTiedAt
import Derived.Stop.Joined
namespace Go.Proofs.YtblngdnndkljoaaDoor.credBack
open Go.ChangeShapes Go.WideShapes Go.ChangeAt Go.RowKit Pv
open Go.ChangeMaps (open_string shut_string)
set_option linter.unusedVariables false
theorem own : ownKnob Tryd.prog.godebug = none := by kernel_rfl
theorem lay0 : lay Tryd.prog 40 9 = some .str := by kernel_rfl
theorem ag0 : isAg Tryd.prog 9 = false := by kernel_rfl
theorem lay1 : lay Tryd.prog 40 9 = some .str := by kernel_rfl
theorem ag1 : isAg Tryd.prog 9 = false := by kernel_rfl
theorem lay2 : lay Tryd.prog 40 9 = some .str := by kernel_rfl
theorem ag2 : isAg Tryd.prog 9 = false := by kernel_rfl
theorem lay3 : lay Tryd.prog 40 27 = some (.sl (.int .u8)) := by kernel_rfl
theorem ag3 : isAg Tryd.prog 27 = false := by kernel_rfl
theorem lay4 : lay Tryd.prog 40 4 = some .bool := by kernel_rfl
theorem ag4 : isAg Tryd.prog 4 = false := by kernel_rfl
theorem ex : (exitSt F_wlvlaw17_CredBack_sig true).map (fun st => st.φ 0) = some (.w false [.d .bool true]) := by kernel_rfl
theorem app (y0 : Ty.D .str) (y1 : Ty.D .str) (y2 : Ty.D .str) (y3 : Ty.D (.sl (.int .u8))) (y4 : Ty.D .bool) (b0 : ∀ x ∈ (show List Int from y0), 0 ≤ x ∧ x < 256) (b1 : ∀ x ∈ (show List Int from y1), 0 ≤ x ∧ x < 256) : appF (α := Bool) [.str, .str, .str, (.sl (.int .u8)), .bool] F_wlvlaw17_CredBack [⟨.str, y0⟩, ⟨.str, y1⟩, ⟨.str, y2⟩, ⟨(.sl (.int .u8)), y3⟩, ⟨.bool, y4⟩] = some true :=
  appF_c (appF_c (appF_c (appF_c (appF_c (appF_n (CredBack_true y0 y1 y2 y3 y4 b0 b1))))))
set_option maxRecDepth 100000 in
theorem lifted (os : Os) (started : os.Started) (H : Type) (enc : TypeId × Value → H) :
    ReturnsInHanded {} Tryd.checked os 5 .any (fun w args => (Rows.credBackSpec.pre enc Tryd.prog Tryd.f5 [] false w args ∧ laidMetH Tryd.prog Rows.credBackRow.laid w) ∧ sizedMet enc Tryd.prog Tryd.f5 (OpenSpec.ofChange Rows.credBackSpec) false w args)
      (Rows.credBackSpec.post enc Tryd.prog Tryd.f5 false true false false) := by
  refine returnsInHanded_of_change_and (C := Tryd.checked) (X := fun w _ => laidMetH Tryd.prog Rows.credBackRow.laid w) (fun _ _ _ hh h => h.of_heap hh) own started (by kernel_rfl) Tryd.func5
    (ChangeSpec.witness_shaped (enc := enc) (C := Tryd.checked) (os := os) (X := fun w _ => laidMetH Tryd.prog Rows.credBackRow.laid w) false (World.laidAll Tryd.prog os Rows.credBackRow.laid) #[.string ⟨#[]⟩, .string ⟨#[]⟩, .string ⟨#[]⟩, .slice none 0 0, .bool false] 8 (World.laidAll_os _ _ _)
      (World.shaped_of_ZipB (by kernel_rfl) (by kernel_rfl)) (by kernel_rfl) (by kernel_rfl) (by kernel_rfl)
      (by rw [MakeChecks.laidMetH_plain _ _ _ (by kernel_rfl)]; exact laidMet_laidAll _ (by kernel_rfl) (by kernel_rfl))) ?_
  intro W base args ds gs before hval0 hW hcnd _ hL _
  have hval : ∀ (j : Nat) t v, Tryd.f5.params[j]? = some t → args[j]? = some v → Value.okWide Tryd.prog W .any base t v := hval0
  have hW' := hW
  obtain ⟨p, q, hA0, hV, rfl, hfz, hnd⟩ := hW
  have hA : DataW.TrodAll enc Tryd.prog W 0 (fun _ => true) true Tryd.f5.params.toList args.toList ds p := hA0
  rw [Tryd.params5] at hA hval
  obtain ⟨v0, vs0, d0, ds0, p0, q0, hargs, rfl, rfl, h0, r0⟩ := trodAll_cons hA
  obtain ⟨v1, vs1, d1, ds1, p1, q1, rfl, rfl, rfl, h1, r1⟩ := trodAll_cons r0
  obtain ⟨v2, vs2, d2, ds2, p2, q2, rfl, rfl, rfl, h2, r2⟩ := trodAll_cons r1
  obtain ⟨v3, vs3, d3, ds3, p3, q3, rfl, rfl, rfl, h3, r3⟩ := trodAll_cons r2
  obtain ⟨v4, vs4, d4, ds4, p4, q4, rfl, rfl, rfl, h4, r4⟩ := trodAll_cons r3
  obtain ⟨rfl, rfl, rfl⟩ := trodAll_nil r4
  obtain rfl : args = #[v0, v1, v2, v3, v4] := by cases args; simp_all
  obtain ⟨rfl, rfl⟩ := trodVars_none hV
  obtain ⟨y0, cs0, k0, m0⟩ := arg_open (c00_cell W) lay0 (hval 0 9 v0 rfl rfl) h0
  rw [ag0] at m0
  obtain ⟨y1, cs1, k1, m1⟩ := arg_open (c00_cell W) lay1 (hval 1 9 v1 rfl rfl) h1
  rw [ag1] at m1
  obtain ⟨y2, cs2, k2, m2⟩ := arg_open (c00_cell W) lay2 (hval 2 9 v2 rfl rfl) h2
  rw [ag2] at m2
  obtain ⟨y3, cs3, k3, m3⟩ := arg_open (c00_cell W) lay3 (hval 3 27 v3 rfl rfl) h3
  rw [ag3] at m3
  obtain ⟨y4, cs4, k4, m4⟩ := arg_open (c00_cell W) lay4 (hval 4 4 v4 rfl rfl) h4
  rw [ag4] at m4
  obtain ⟨ob, oo, ocap, ocs, ho1, ho2, ho3⟩ := orb_here (D := Rows.laid_unicode_caseOrbit) rfl hL (by kernel_rfl) rfl
  refine (law_calls (P := Tryd.prog) (W := W) (T := [tab_afold, (1, #[Value.slice (some ⟨ob, oo, none⟩) 94 ocap]), (ob, ocs)]) (List.forall_mem_cons.2 ⟨tab_laid (name := "unicode.asciiFold") hL (by kernel_rfl) (g := 0) (by kernel_rfl) (t := 110) (e := 109) (n := 128) (by kernel_rfl) (by kernel_rfl) (by kernel_rfl) (by kernel_rfl) (by kernel_rfl), List.forall_mem_cons.2 ⟨ho1, List.forall_mem_cons.2 ⟨ho2, fun p hp => by cases hp⟩⟩⟩) (s := F_wlvlaw17_CredBack_sig) (al := [⟨false, flat .str y0, v0⟩, ⟨false, flat .str y1, v1⟩, ⟨false, flat .str y2, v2⟩, ⟨false, flat (.sl (.int .u8)) y3, v3⟩, ⟨false, flat .bool y4, v4⟩]) (y := true) (F_wlvlaw17_CredBack_sound (T := [tab_afold, (1, #[Value.slice (some ⟨ob, oo, none⟩) 94 ocap]), (ob, ocs)]) (List.mem_cons_self) ⟨ob, oo, ocap, ocs, (List.mem_cons_of_mem _ (List.mem_cons_self)), (List.mem_cons_of_mem _ (List.mem_cons_of_mem _ (List.mem_cons_self))), ho3⟩) rfl rfl Tryd.func5 (List.forall_mem_cons.2 ⟨Arg.mk_ok k0 m0, List.forall_mem_cons.2 ⟨Arg.mk_ok k1 m1, List.forall_mem_cons.2 ⟨Arg.mk_ok k2 m2, List.forall_mem_cons.2 ⟨Arg.mk_ok k3 m3, List.forall_mem_cons.2 ⟨Arg.mk_ok k4 m4, fun a h => by cases h⟩⟩⟩⟩⟩) (app y0 y1 y2 y3 y4 (Pv.str_of k0) (Pv.str_of k1)) fun st' h => ?_).mono fun e W' ⟨he, hb⟩ => ?_
  · have e := ex
    rw [h] at e
    injection e
  · subst he
    exact ⟨_, rfl, law_post rfl rfl Tryd.underlying4 (by kernel_rfl) (by kernel_rfl) hW' rfl rfl rfl hb⟩
theorem over : Rows.credBackRow.holds Tryd.pinned (OpenSpec.ofChange Rows.credBackSpec) :=
  OpenClaim.holds_of_wide 5 Tryd.f5 rfl rfl rfl rfl rfl rfl rfl ⟨rfl, rfl, rfl, rfl, rfl⟩ rfl rfl rfl rfl rfl (by kernel_rfl) Tryd.func5 (by kernel_rfl)
    (of_decide_eq_true (by kernel_rfl)) (by unfold Func.isWrapper; first | (rw [if_pos (by decide +kernel)]; kernel_rfl) | (rw [if_neg (by decide +kernel)]; exact ⟨rfl, rfl⟩))
    (fun os started H enc _ => lifted os started H enc)
theorem proved : Rows.CredBackCardSaid :=
  Claim7.holds_tied_plain_at .later [] _ _ _ _ over (fun _ h => by cases h) (by kernel_rfl) (fun _ h => by cases h) credBack_row_tie rfl ⟨rfl, rfl⟩ (by kernel_rfl) rfl
    (fun f fn hf hfn => by
      obtain rfl : f = 5 := Option.some.inj ((show Tryd.prog.funcNamed "wayleave/wlvlaw17.CredBack" = some 5 by kernel_rfl).symm.trans hf) |>.symm
      obtain rfl : fn = Tryd.f5 := (Option.some.inj (Tryd.func5.symm.trans hfn)).symm
      exact ⟨by kernel_rfl, fun j t ht => by
        rw [Tryd.params5] at ht
        have hm : t ∈ [9, 9, 9, 27, 4] := by simpa using Array.mem_of_getElem? ht
        have hall : ([9, 9, 9, 27, 4].all fun u => !Tryd.prog.wantsStandIn u) = true := by kernel_rfl
        exact (show Tryd.prog.wantsStandIn t = false by simpa using List.all_eq_true.1 hall t hm)⟩)
    (by kernel_rfl)
#print axioms proved
end Go.Proofs.YtblngdnndkljoaaDoor.credBack
