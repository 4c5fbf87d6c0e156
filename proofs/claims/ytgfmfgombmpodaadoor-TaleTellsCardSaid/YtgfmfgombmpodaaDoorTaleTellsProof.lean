/- Proved: wlvlaw28.TaleTells returns true for every input that the row lets in, and leaves its arguments as they were; no condition beyond the row's own. The card's tie is the given one. -/
import Derived.Test.YtgfmfgombmpodaaDoorTaleTellsM5
import Derived.Test.YtgfmfgombmpodaaDoorRows
import Derived.Test.YtgfmfgombmpodaaDoorCards
import Derived.Test.YtgfmfgombmpodaaDoorTie
import Derived.Test.YtgfmfgombmpodaaDoorChecked
import Derived.LaidMore
import Derived.Lay
import Derived.SevenTiedAt
import Derived.Stop.Joined
namespace Go.Proofs.YtgfmfgombmpodaaDoor.taleTells
open Go.ChangeShapes Go.WideShapes Go.ChangeAt Go.RowKit Pv
open Go.ChangeMaps (open_string shut_string)
set_option linter.unusedVariables false
theorem own : ownKnob Tryd.prog.godebug = none := by kernel_rfl
theorem lay0 : lay Tryd.prog 40 3 = some (.int .i64) := by kernel_rfl
theorem ag0 : isAg Tryd.prog 3 = false := by kernel_rfl
theorem lay1 : lay Tryd.prog 40 3 = some (.int .i64) := by kernel_rfl
theorem ag1 : isAg Tryd.prog 3 = false := by kernel_rfl
theorem lay2 : lay Tryd.prog 40 3 = some (.int .i64) := by kernel_rfl
theorem ag2 : isAg Tryd.prog 3 = false := by kernel_rfl
theorem lay3 : lay Tryd.prog 40 3 = some (.int .i64) := by kernel_rfl
theorem ag3 : isAg Tryd.prog 3 = false := by kernel_rfl
theorem lay4 : lay Tryd.prog 40 32 = some (.sl (.pr .str (.pr .str .bool))) := by kernel_rfl
theorem ag4 : isAg Tryd.prog 32 = false := by kernel_rfl
theorem lay5 : lay Tryd.prog 40 3 = some (.int .i64) := by kernel_rfl
theorem ag5 : isAg Tryd.prog 3 = false := by kernel_rfl
theorem lay6 : lay Tryd.prog 40 9 = some .str := by kernel_rfl
theorem ag6 : isAg Tryd.prog 9 = false := by kernel_rfl
theorem lay7 : lay Tryd.prog 40 9 = some .str := by kernel_rfl
theorem ag7 : isAg Tryd.prog 9 = false := by kernel_rfl
theorem lay8 : lay Tryd.prog 40 9 = some .str := by kernel_rfl
theorem ag8 : isAg Tryd.prog 9 = false := by kernel_rfl
theorem lay9 : lay Tryd.prog 40 22 = some (.sl (.int .u8)) := by kernel_rfl
theorem ag9 : isAg Tryd.prog 22 = false := by kernel_rfl
theorem lay10 : lay Tryd.prog 40 4 = some .bool := by kernel_rfl
theorem ag10 : isAg Tryd.prog 4 = false := by kernel_rfl
theorem ex : (exitSt F_wlvlaw28_TaleTells_sig true).map (fun st => st.φ 0) = some (.w false [.d .bool true]) := by kernel_rfl
theorem app (y0 : Ty.D (.int .i64)) (y1 : Ty.D (.int .i64)) (y2 : Ty.D (.int .i64)) (y3 : Ty.D (.int .i64)) (y4 : Ty.D (.sl (.pr .str (.pr .str .bool)))) (y5 : Ty.D (.int .i64)) (y6 : Ty.D .str) (y7 : Ty.D .str) (y8 : Ty.D .str) (y9 : Ty.D (.sl (.int .u8))) (y10 : Ty.D .bool) (b1 : (Lit.int .i64 y1).wf = true) (b2 : (Lit.int .i64 y2).wf = true) (b3 : (Lit.int .i64 y3).wf = true) : appF (α := Bool) [(.int .i64), (.int .i64), (.int .i64), (.int .i64), (.sl (.pr .str (.pr .str .bool))), (.int .i64), .str, .str, .str, (.sl (.int .u8)), .bool] F_wlvlaw28_TaleTells [⟨(.int .i64), y0⟩, ⟨(.int .i64), y1⟩, ⟨(.int .i64), y2⟩, ⟨(.int .i64), y3⟩, ⟨(.sl (.pr .str (.pr .str .bool))), y4⟩, ⟨(.int .i64), y5⟩, ⟨.str, y6⟩, ⟨.str, y7⟩, ⟨.str, y8⟩, ⟨(.sl (.int .u8)), y9⟩, ⟨.bool, y10⟩] = some true :=
  appF_c (appF_c (appF_c (appF_c (appF_c (appF_c (appF_c (appF_c (appF_c (appF_c (appF_c (appF_n (TaleTells_true y0 y1 y2 y3 y4 y5 y6 y7 y8 y9 y10 b1 b2 b3))))))))))))
set_option maxRecDepth 100000 in
theorem lifted (os : Os) (started : os.Started) (H : Type) (enc : TypeId × Value → H) :
    ReturnsInHanded {} Tryd.checked os 5 .any (fun w args => (Rows.taleTellsSpec.pre enc Tryd.prog Tryd.f5 [] false w args ∧ laidMetH Tryd.prog Rows.taleTellsRow.laid w) ∧ sizedMet enc Tryd.prog Tryd.f5 (OpenSpec.ofChange Rows.taleTellsSpec) false w args)
      (Rows.taleTellsSpec.post enc Tryd.prog Tryd.f5 false true false false) := by
  refine returnsInHanded_of_change_and (C := Tryd.checked) (X := fun w _ => laidMetH Tryd.prog Rows.taleTellsRow.laid w) (fun _ _ _ hh h => h.of_heap hh) own started (by kernel_rfl) Tryd.func5
    (ChangeSpec.witness_shaped (enc := enc) (C := Tryd.checked) (os := os) (X := fun w _ => laidMetH Tryd.prog Rows.taleTellsRow.laid w) false (World.laidAll Tryd.prog os Rows.taleTellsRow.laid) #[.int .i64 0, .int .i64 0, .int .i64 0, .int .i64 0, .slice none 0 0, .int .i64 0, .string ⟨#[]⟩, .string ⟨#[]⟩, .string ⟨#[]⟩, .slice none 0 0, .bool false] 8 (World.laidAll_os _ _ _)
      (World.shaped_of_ZipB (by kernel_rfl) (by kernel_rfl)) (by kernel_rfl) (by kernel_rfl) (by kernel_rfl)
      (by rw [MakeChecks.laidMetH_plain _ _ _ (by kernel_rfl)]; exact laidMet_laidAll _ (by kernel_rfl) (by kernel_rfl))) ?_
  intro W base args ds gs before hval0 hW hcnd _ hL _
  have hval : ∀ (j : Nat) t v, Tryd.f5.params[j]? = some t → args[j]? = some v → Value.okWide Tryd.prog W .any base t v := hval0
  have hW' := hW
  obtain ⟨p, q, hA0, hV, rfl, hfz, hnd⟩ := hW
  have hA : DataW.TrodAll enc Tryd.prog W 0 (fun _ => true) true Tryd.f5.params.toList args.toList ds p := hA0
  rw [Tryd.params5] at hA hval
  obtain ⟨v0, vs0, d0, ds0, p0, q0, hargs, rfl, rfl, h0, r0⟩ := trodAll_cons hA
  obtain ⟨v1, vs1, d1, ds1, p1, q1, rfl, rfl, rfl, h1, r1⟩ := trodAll_cons r0
  obtain ⟨v2, vs2, d2, ds2, p2, q2, rfl, rfl, rfl, h2, r2⟩ := trodAll_cons r1
  obtain ⟨v3, vs3, d3, ds3, p3, q3, rfl, rfl, rfl, h3, r3⟩ := trodAll_cons r2
  obtain ⟨v4, vs4, d4, ds4, p4, q4, rfl, rfl, rfl, h4, r4⟩ := trodAll_cons r3
  obtain ⟨v5, vs5, d5, ds5, p5, q5, rfl, rfl, rfl, h5, r5⟩ := trodAll_cons r4
  obtain ⟨v6, vs6, d6, ds6, p6, q6, rfl, rfl, rfl, h6, r6⟩ := trodAll_cons r5
  obtain ⟨v7, vs7, d7, ds7, p7, q7, rfl, rfl, rfl, h7, r7⟩ := trodAll_cons r6
  obtain ⟨v8, vs8, d8, ds8, p8, q8, rfl, rfl, rfl, h8, r8⟩ := trodAll_cons r7
  obtain ⟨v9, vs9, d9, ds9, p9, q9, rfl, rfl, rfl, h9, r9⟩ := trodAll_cons r8
  obtain ⟨v10, vs10, d10, ds10, p10, q10, rfl, rfl, rfl, h10, r10⟩ := trodAll_cons r9
  obtain ⟨rfl, rfl, rfl⟩ := trodAll_nil r10
  obtain rfl : args = #[v0, v1, v2, v3, v4, v5, v6, v7, v8, v9, v10] := by cases args; simp_all
  obtain ⟨rfl, rfl⟩ := trodVars_none hV
  obtain ⟨y0, cs0, k0, m0⟩ := arg_open (c00_cell W) lay0 (hval 0 3 v0 rfl rfl) h0
  rw [ag0] at m0
  obtain ⟨y1, cs1, k1, m1⟩ := arg_open (c00_cell W) lay1 (hval 1 3 v1 rfl rfl) h1
  rw [ag1] at m1
  obtain ⟨y2, cs2, k2, m2⟩ := arg_open (c00_cell W) lay2 (hval 2 3 v2 rfl rfl) h2
  rw [ag2] at m2
  obtain ⟨y3, cs3, k3, m3⟩ := arg_open (c00_cell W) lay3 (hval 3 3 v3 rfl rfl) h3
  rw [ag3] at m3
  obtain ⟨y4, cs4, k4, m4⟩ := arg_open (c00_cell W) lay4 (hval 4 32 v4 rfl rfl) h4
  rw [ag4] at m4
  obtain ⟨y5, cs5, k5, m5⟩ := arg_open (c00_cell W) lay5 (hval 5 3 v5 rfl rfl) h5
  rw [ag5] at m5
  obtain ⟨y6, cs6, k6, m6⟩ := arg_open (c00_cell W) lay6 (hval 6 9 v6 rfl rfl) h6
  rw [ag6] at m6
  obtain ⟨y7, cs7, k7, m7⟩ := arg_open (c00_cell W) lay7 (hval 7 9 v7 rfl rfl) h7
  rw [ag7] at m7
  obtain ⟨y8, cs8, k8, m8⟩ := arg_open (c00_cell W) lay8 (hval 8 9 v8 rfl rfl) h8
  rw [ag8] at m8
  obtain ⟨y9, cs9, k9, m9⟩ := arg_open (c00_cell W) lay9 (hval 9 22 v9 rfl rfl) h9
  rw [ag9] at m9
  obtain ⟨y10, cs10, k10, m10⟩ := arg_open (c00_cell W) lay10 (hval 10 4 v10 rfl rfl) h10
  rw [ag10] at m10
  refine (law_calls (P := Tryd.prog) (W := W) (T := [tab_pow10]) (List.forall_mem_cons.2 ⟨tab_laid (name := "internal/strconv.uint64pow10") hL (by kernel_rfl) (g := 0) (by kernel_rfl) (t := 123) (e := 93) (n := 20) (by kernel_rfl) (by kernel_rfl) (by kernel_rfl) (by kernel_rfl) (by kernel_rfl), fun p hp => by cases hp⟩) (s := F_wlvlaw28_TaleTells_sig) (al := [⟨false, flat (.int .i64) y0, v0⟩, ⟨false, flat (.int .i64) y1, v1⟩, ⟨false, flat (.int .i64) y2, v2⟩, ⟨false, flat (.int .i64) y3, v3⟩, ⟨false, flat (.sl (.pr .str (.pr .str .bool))) y4, v4⟩, ⟨false, flat (.int .i64) y5, v5⟩, ⟨false, flat .str y6, v6⟩, ⟨false, flat .str y7, v7⟩, ⟨false, flat .str y8, v8⟩, ⟨false, flat (.sl (.int .u8)) y9, v9⟩, ⟨false, flat .bool y10, v10⟩]) (y := true) (F_wlvlaw28_TaleTells_sound (T := [tab_pow10]) (List.mem_cons_self)) rfl rfl Tryd.func5 (List.forall_mem_cons.2 ⟨Arg.mk_ok k0 m0, List.forall_mem_cons.2 ⟨Arg.mk_ok k1 m1, List.forall_mem_cons.2 ⟨Arg.mk_ok k2 m2, List.forall_mem_cons.2 ⟨Arg.mk_ok k3 m3, List.forall_mem_cons.2 ⟨Arg.mk_ok k4 m4, List.forall_mem_cons.2 ⟨Arg.mk_ok k5 m5, List.forall_mem_cons.2 ⟨Arg.mk_ok k6 m6, List.forall_mem_cons.2 ⟨Arg.mk_ok k7 m7, List.forall_mem_cons.2 ⟨Arg.mk_ok k8 m8, List.forall_mem_cons.2 ⟨Arg.mk_ok k9 m9, List.forall_mem_cons.2 ⟨Arg.mk_ok k10 m10, fun a h => by cases h⟩⟩⟩⟩⟩⟩⟩⟩⟩⟩⟩) (app y0 y1 y2 y3 y4 y5 y6 y7 y8 y9 y10 k1.2 k2.2 k3.2) fun st' h => ?_).mono fun e W' ⟨he, hb⟩ => ?_
  · have e := ex
    rw [h] at e
    injection e
  · subst he
    exact ⟨_, rfl, law_post rfl rfl Tryd.underlying4 (by kernel_rfl) (by kernel_rfl) hW' rfl rfl rfl hb⟩
theorem over : Rows.taleTellsRow.holds Tryd.pinned (OpenSpec.ofChange Rows.taleTellsSpec) :=
  OpenClaim.holds_of_wide 5 Tryd.f5 rfl rfl rfl rfl rfl rfl rfl ⟨rfl, rfl, rfl, rfl, rfl⟩ rfl rfl rfl rfl rfl (by kernel_rfl) Tryd.func5 (by kernel_rfl)
    (of_decide_eq_true (by kernel_rfl)) (by unfold Func.isWrapper; first | (rw [if_pos (by decide +kernel)]; kernel_rfl) | (rw [if_neg (by decide +kernel)]; exact ⟨rfl, rfl⟩))
    (fun os started H enc _ => lifted os started H enc)
theorem proved : Rows.TaleTellsCardSaid :=
  Claim7.holds_tied_plain_at .later [] _ _ _ _ over (fun _ h => by cases h) (by kernel_rfl) (fun _ h => by cases h) taleTells_row_tie rfl ⟨rfl, rfl⟩ (by kernel_rfl) rfl
    (fun f fn hf hfn => by
      obtain rfl : f = 5 := Option.some.inj ((show Tryd.prog.funcNamed "wayleave/wlvlaw28.TaleTells" = some 5 by kernel_rfl).symm.trans hf) |>.symm
      obtain rfl : fn = Tryd.f5 := (Option.some.inj (Tryd.func5.symm.trans hfn)).symm
      exact ⟨by kernel_rfl, fun j t ht => by
        rw [Tryd.params5] at ht
        have hm : t ∈ [3, 3, 3, 3, 32, 3, 9, 9, 9, 22, 4] := by simpa using Array.mem_of_getElem? ht
        have hall : ([3, 3, 3, 3, 32, 3, 9, 9, 9, 22, 4].all fun u => !Tryd.prog.wantsStandIn u) = true := by kernel_rfl
        exact (show Tryd.prog.wantsStandIn t = false by simpa using List.all_eq_true.1 hall t hm)⟩)
    (by kernel_rfl)
#print axioms proved
end Go.Proofs.YtgfmfgombmpodaaDoor.taleTells
