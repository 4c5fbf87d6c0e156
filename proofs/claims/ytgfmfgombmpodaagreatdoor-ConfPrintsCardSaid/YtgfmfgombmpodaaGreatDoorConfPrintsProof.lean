/- Proved: wlvlaw18.ConfPrints returns true for every input that the row lets in, and leaves its arguments as they were; no condition beyond the row's own. The card's tie is the given one. -/
import Derived.Test.YtgfmfgombmpodaaGreatDoorConfPrintsM6
import Derived.Test.YtgfmfgombmpodaaGreatDoorRows
import Derived.Test.YtgfmfgombmpodaaGreatDoorCards
import Derived.Test.YtgfmfgombmpodaaGreatDoorTie
import Derived.Test.YtgfmfgombmpodaaGreatDoorChecked
import Derived.LaidMore
import Derived.Lay
import Derived.SevenTiedAt
import Derived.Stop.Joined
namespace Go.Proofs.YtgfmfgombmpodaaGreatDoor.confPrints
open Go.ChangeShapes Go.WideShapes Go.ChangeAt Go.RowKit Pv
open Go.ChangeMaps (open_string shut_string)
set_option linter.unusedVariables false
theorem own : ownKnob Tryz.prog.godebug = none := by kernel_rfl
theorem lay0 : lay Tryz.prog 40 47 = some (.sl .str) := by kernel_rfl
theorem ag0 : isAg Tryz.prog 47 = false := by kernel_rfl
theorem lay1 : lay Tryz.prog 40 47 = some (.sl .str) := by kernel_rfl
theorem ag1 : isAg Tryz.prog 47 = false := by kernel_rfl
theorem lay2 : lay Tryz.prog 40 9 = some .str := by kernel_rfl
theorem ag2 : isAg Tryz.prog 9 = false := by kernel_rfl
theorem ex : (exitSt F_wlvlaw18_ConfPrints_sig true).map (fun st => st.φ 0) = some (.w false [.d .bool true]) := by kernel_rfl
theorem app (y0 : Ty.D (.sl .str)) (y1 : Ty.D (.sl .str)) (y2 : Ty.D .str) : appF (α := Bool) [(.sl .str), (.sl .str), .str] F_wlvlaw18_ConfPrints [⟨(.sl .str), y0⟩, ⟨(.sl .str), y1⟩, ⟨.str, y2⟩] = some true :=
  appF_c (appF_c (appF_c (appF_n (ConfPrints_true y0 y1 y2))))
set_option maxRecDepth 100000 in
theorem lifted (os : Os) (started : os.Started) (H : Type) (enc : TypeId × Value → H) :
    ReturnsInHanded {} Tryz.checked os 9 .any (fun w args => (Rows.confPrintsSpec.pre enc Tryz.prog Tryz.f9 [] false w args ∧ laidMetH Tryz.prog Rows.confPrintsRow.laid w) ∧ sizedMet enc Tryz.prog Tryz.f9 (OpenSpec.ofChange Rows.confPrintsSpec) false w args)
      (Rows.confPrintsSpec.post enc Tryz.prog Tryz.f9 false true false false) := by
  refine handed_of_laid_shaped (C := Tryz.checked) (X := fun w _ => laidMetH Tryz.prog Rows.confPrintsRow.laid w) (fun _ _ _ hh h => h.of_heap hh) own started (by kernel_rfl) Tryz.func9
    (ChangeSpec.witness_shaped (enc := enc) (C := Tryz.checked) (os := os) (X := fun w _ => laidMetH Tryz.prog Rows.confPrintsRow.laid w) false (World.laidAll Tryz.prog os Rows.confPrintsRow.laid) #[.slice none 0 0, .slice none 0 0, .string ⟨#[]⟩] 8 (World.laidAll_os _ _ _)
      (World.shaped_of_ZipB (by kernel_rfl) (by kernel_rfl)) (by kernel_rfl) (by kernel_rfl) (by kernel_rfl)
      (by rw [MakeChecks.laidMetH_plain _ _ _ (by kernel_rfl)]; exact laidMet_laidAll _ (by kernel_rfl) (by kernel_rfl))) ?_
  intro W base args ds gs before hval0 hW hL hsh
  have hval : ∀ (j : Nat) t v, Tryz.f9.params[j]? = some t → args[j]? = some v → Value.okWide Tryz.prog W .any base t v := hval0
  have hW' := hW
  obtain ⟨p, q, hA0, hV, rfl, hfz, hnd⟩ := hW
  have hA : DataW.TrodAll enc Tryz.prog W 0 (fun _ => true) true Tryz.f9.params.toList args.toList ds p := hA0
  rw [Tryz.params9] at hA hval
  obtain ⟨v0, vs0, d0, ds0, p0, q0, hargs, rfl, rfl, h0, r0⟩ := trodAll_cons hA
  obtain ⟨v1, vs1, d1, ds1, p1, q1, rfl, rfl, rfl, h1, r1⟩ := trodAll_cons r0
  obtain ⟨v2, vs2, d2, ds2, p2, q2, rfl, rfl, rfl, h2, r2⟩ := trodAll_cons r1
  obtain ⟨rfl, rfl, rfl⟩ := trodAll_nil r2
  obtain rfl : args = #[v0, v1, v2] := by cases args; simp_all
  obtain ⟨rfl, rfl⟩ := trodVars_none hV
  obtain ⟨y0, cs0, k0, m0⟩ := arg_open (c00_cell W) lay0 (hval 0 47 v0 rfl rfl) h0
  rw [ag0] at m0
  obtain ⟨y1, cs1, k1, m1⟩ := arg_open (c00_cell W) lay1 (hval 1 47 v1 rfl rfl) h1
  rw [ag1] at m1
  obtain ⟨y2, cs2, k2, m2⟩ := arg_open (c00_cell W) lay2 (hval 2 9 v2 rfl rfl) h2
  rw [ag2] at m2
  obtain ⟨ve1, he1, oe1⟩ := err_laid (name := "strconv.ErrSyntax") (D := Rows.laid_strconv_ErrSyntax) rfl hL (by kernel_rfl) (by kernel_rfl) (g := 4) (by kernel_rfl) (t := 157) (by kernel_rfl) Tryz.underlying157
  obtain ⟨ve2, he2, oe2⟩ := err_laid (name := "strconv.ErrRange") (D := Rows.laid_strconv_ErrRange) rfl hL (by kernel_rfl) (by kernel_rfl) (g := 5) (by kernel_rfl) (t := 157) (by kernel_rfl) Tryz.underlying157
  obtain ⟨ml, hml⟩ := int_shaped (P := Tryz.prog) (zero := #[.int .i64 0]) (g := 1) (t := 3) (k := .i64) hsh (of_decide_eq_true (by kernel_rfl)) (by kernel_rfl) rfl (by kernel_rfl) (by kernel_rfl) Tryz.underlying3
  refine (law_calls (P := Tryz.prog) (W := W) (T := [tab_pow10, tab_db, (4, #[ve1]), (5, #[ve2]), (1, #[Value.int .i64 ml])]) (List.forall_mem_cons.2 ⟨tab_laid (name := "internal/strconv.uint64pow10") hL (by kernel_rfl) (g := 0) (by kernel_rfl) (t := 268) (e := 218) (n := 20) (by kernel_rfl) (by kernel_rfl) (by kernel_rfl) (by kernel_rfl) (by kernel_rfl), List.forall_mem_cons.2 ⟨tab_laid (name := "math/bits.deBruijn64tab") hL (by kernel_rfl) (g := 7) (by kernel_rfl) (t := 298) (e := 5) (n := 64) (by kernel_rfl) (by kernel_rfl) (by kernel_rfl) (by kernel_rfl) (by kernel_rfl), List.forall_mem_cons.2 ⟨he1, List.forall_mem_cons.2 ⟨he2, List.forall_mem_cons.2 ⟨hml, fun p hp => by cases hp⟩⟩⟩⟩⟩) (s := F_wlvlaw18_ConfPrints_sig) (al := [⟨false, flat (.sl .str) y0, v0⟩, ⟨false, flat (.sl .str) y1, v1⟩, ⟨false, flat .str y2, v2⟩]) (y := true) (F_wlvlaw18_ConfPrints_sound (T := [tab_pow10, tab_db, (4, #[ve1]), (5, #[ve2]), (1, #[Value.int .i64 ml])]) (List.mem_cons_self) (List.mem_cons_of_mem _ (List.mem_cons_self))) rfl rfl Tryz.func9 (List.forall_mem_cons.2 ⟨Arg.mk_ok k0 m0, List.forall_mem_cons.2 ⟨Arg.mk_ok k1 m1, List.forall_mem_cons.2 ⟨Arg.mk_ok k2 m2, fun a h => by cases h⟩⟩⟩) (app y0 y1 y2) fun st' h => ?_).mono fun e W' ⟨he, hb⟩ => ?_
  · have e := ex
    rw [h] at e
    injection e
  · subst he
    exact ⟨_, rfl, law_post rfl rfl Tryz.underlying4 (by kernel_rfl) (by kernel_rfl) hW' rfl rfl rfl hb⟩
theorem over : Rows.confPrintsRow.holds Tryz.pinned (OpenSpec.ofChange Rows.confPrintsSpec) :=
  OpenClaim.holds_of_wide 9 Tryz.f9 rfl rfl rfl rfl rfl rfl rfl ⟨rfl, rfl, rfl, rfl, rfl⟩ rfl rfl rfl rfl rfl (by kernel_rfl) Tryz.func9 (by kernel_rfl)
    (of_decide_eq_true (by kernel_rfl)) (by unfold Func.isWrapper; first | (rw [if_pos (by decide +kernel)]; kernel_rfl) | (rw [if_neg (by decide +kernel)]; exact ⟨rfl, rfl⟩))
    (fun os started H enc _ => lifted os started H enc)
theorem proved : Rows.ConfPrintsCardSaid :=
  Claim7.holds_tied_plain_at .later [] _ _ _ _ over (fun _ h => by cases h) (by kernel_rfl) (fun _ h => by cases h) confPrints_row_tie rfl ⟨rfl, rfl⟩ (by kernel_rfl) rfl
    (fun f fn hf hfn => by
      obtain rfl : f = 9 := Option.some.inj ((show Tryz.prog.funcNamed "wayleave/wlvlaw18.ConfPrints" = some 9 by kernel_rfl).symm.trans hf) |>.symm
      obtain rfl : fn = Tryz.f9 := (Option.some.inj (Tryz.func9.symm.trans hfn)).symm
      exact ⟨by kernel_rfl, fun j t ht => by
        rw [Tryz.params9] at ht
        have hm : t ∈ [47, 47, 9] := by simpa using Array.mem_of_getElem? ht
        have hall : ([47, 47, 9].all fun u => !Tryz.prog.wantsStandIn u) = true := by kernel_rfl
        exact (show Tryz.prog.wantsStandIn t = false by simpa using List.all_eq_true.1 hall t hm)⟩)
    (by kernel_rfl)
#print axioms proved
end Go.Proofs.YtgfmfgombmpodaaGreatDoor.confPrints
