/- Proved: wlvlaw28.TaleBlocks returns true for every input that the row lets in, and leaves its arguments as they were; no condition beyond the row's own. The card's tie is the given one. -/
import Derived.Test.YtifbhefbhlbofaaGreatDoorTaleBlocksM5
import Derived.Test.YtifbhefbhlbofaaGreatDoorRows
import Derived.Test.YtifbhefbhlbofaaGreatDoorCards
import Derived.Test.YtifbhefbhlbofaaGreatDoorTie
import Derived.Test.YtifbhefbhlbofaaGreatDoorChecked
import Derived.LaidMore
import Derived.Lay
import Derived.SevenTiedAt
import Derived.Stop.Joined
namespace Go.Proofs.YtifbhefbhlbofaaGreatDoor.taleBlocks
open Go.ChangeShapes Go.WideShapes Go.ChangeAt Go.RowKit Pv
open Go.ChangeMaps (open_string shut_string)
set_option linter.unusedVariables false
theorem own : ownKnob Tryz.prog.godebug = none := by kernel_rfl
theorem lay0 : lay Tryz.prog 40 22 = some (.sl (.pr .str (.pr .str .bool))) := by kernel_rfl
theorem ag0 : isAg Tryz.prog 22 = false := by kernel_rfl
theorem lay1 : lay Tryz.prog 40 9 = some .str := by kernel_rfl
theorem ag1 : isAg Tryz.prog 9 = false := by kernel_rfl
theorem lay2 : lay Tryz.prog 40 9 = some .str := by kernel_rfl
theorem ag2 : isAg Tryz.prog 9 = false := by kernel_rfl
theorem lay3 : lay Tryz.prog 40 9 = some .str := by kernel_rfl
theorem ag3 : isAg Tryz.prog 9 = false := by kernel_rfl
theorem lay4 : lay Tryz.prog 40 4 = some .bool := by kernel_rfl
theorem ag4 : isAg Tryz.prog 4 = false := by kernel_rfl
theorem ex (z : Ty.D (.pr (.sl (.pr (.ptr 109) .bool)) (.pr (.sl (.pr (.os 26 (.pr .str (.pr .str .bool))) (.pr (.int .i64) (.int .i64)))) (.sl (.pr (.int .i64) (.sl (.int .u8))))))) : (exitSt F_wlvlaw28_TaleBlocks_sig (true, z)).map (fun st => st.φ 0) = some (.w false [.d .bool true]) := by kernel_rfl
theorem app (y0 : Ty.D (.sl (.pr .str (.pr .str .bool)))) (y1 : Ty.D .str) (y2 : Ty.D .str) (y3 : Ty.D .str) (y4 : Ty.D .bool) : ∃ z : Ty.D (.pr (.sl (.pr (.ptr 109) .bool)) (.pr (.sl (.pr (.os 26 (.pr .str (.pr .str .bool))) (.pr (.int .i64) (.int .i64)))) (.sl (.pr (.int .i64) (.sl (.int .u8)))))), appF (α := Bool × Ty.D (.pr (.sl (.pr (.ptr 109) .bool)) (.pr (.sl (.pr (.os 26 (.pr .str (.pr .str .bool))) (.pr (.int .i64) (.int .i64)))) (.sl (.pr (.int .i64) (.sl (.int .u8))))))) [(.sl (.pr .str (.pr .str .bool))), .str, .str, .str, .bool, (.sl (.pr (.ptr 109) .bool)), (.sl (.pr (.os 26 (.pr .str (.pr .str .bool))) (.pr (.int .i64) (.int .i64)))), (.sl (.pr (.int .i64) (.sl (.int .u8))))] F_wlvlaw28_TaleBlocks [⟨(.sl (.pr .str (.pr .str .bool))), y0⟩, ⟨.str, y1⟩, ⟨.str, y2⟩, ⟨.str, y3⟩, ⟨.bool, y4⟩, ⟨(.sl (.pr (.ptr 109) .bool)), ([] : List (Int × Bool))⟩, ⟨(.sl (.pr (.os 26 (.pr .str (.pr .str .bool))) (.pr (.int .i64) (.int .i64)))), ([] : List (List (List Int × List Int × Bool) × Int × Int))⟩, ⟨(.sl (.pr (.int .i64) (.sl (.int .u8)))), ([] : List (Int × List Int))⟩] = some (true, z) :=
  let ⟨z, hz⟩ := TaleBlocks_true y0 y1 y2 y3 y4
  ⟨z, appF_c (appF_c (appF_c (appF_c (appF_c (appF_c (appF_c (appF_c (appF_n hz))))))))⟩
set_option maxRecDepth 100000 in
theorem lifted (os : Os) (started : os.Started) (H : Type) (enc : TypeId × Value → H) :
    ReturnsInHanded {} Tryz.checked os 3 .any (fun w args => (Rows.taleBlocksSpec.pre enc Tryz.prog Tryz.f3 [] false w args ∧ laidMetH Tryz.prog Rows.taleBlocksRow.laid w) ∧ sizedMet enc Tryz.prog Tryz.f3 (OpenSpec.ofChange Rows.taleBlocksSpec) false w args)
      (Rows.taleBlocksSpec.post enc Tryz.prog Tryz.f3 false true false false) := by
  refine handed_of_laid_shaped (C := Tryz.checked) (X := fun w _ => laidMetH Tryz.prog Rows.taleBlocksRow.laid w) (fun _ _ _ hh h => h.of_heap hh) own started (by kernel_rfl) Tryz.func3
    (ChangeSpec.witness_shaped (enc := enc) (C := Tryz.checked) (os := os) (X := fun w _ => laidMetH Tryz.prog Rows.taleBlocksRow.laid w) false (World.laidAll Tryz.prog os Rows.taleBlocksRow.laid) #[.slice none 0 0, .string ⟨#[]⟩, .string ⟨#[]⟩, .string ⟨#[]⟩, .bool false] 8 (World.laidAll_os _ _ _)
      (World.shaped_of_ZipB (by kernel_rfl) (by kernel_rfl)) (by kernel_rfl) (by kernel_rfl) (by kernel_rfl)
      (by rw [MakeChecks.laidMetH_plain _ _ _ (by kernel_rfl)]; exact laidMet_laidAll _ (by kernel_rfl) (by kernel_rfl))) ?_
  intro W base args ds gs before hval0 hW hL hsh
  have hval : ∀ (j : Nat) t v, Tryz.f3.params[j]? = some t → args[j]? = some v → Value.okWide Tryz.prog W .any base t v := hval0
  have hW' := hW
  obtain ⟨p, q, hA0, hV, rfl, hfz, hnd⟩ := hW
  have hA : DataW.TrodAll enc Tryz.prog W 0 (fun _ => true) true Tryz.f3.params.toList args.toList ds p := hA0
  rw [Tryz.params3] at hA hval
  obtain ⟨v0, vs0, d0, ds0, p0, q0, hargs, rfl, rfl, h0, r0⟩ := trodAll_cons hA
  obtain ⟨v1, vs1, d1, ds1, p1, q1, rfl, rfl, rfl, h1, r1⟩ := trodAll_cons r0
  obtain ⟨v2, vs2, d2, ds2, p2, q2, rfl, rfl, rfl, h2, r2⟩ := trodAll_cons r1
  obtain ⟨v3, vs3, d3, ds3, p3, q3, rfl, rfl, rfl, h3, r3⟩ := trodAll_cons r2
  obtain ⟨v4, vs4, d4, ds4, p4, q4, rfl, rfl, rfl, h4, r4⟩ := trodAll_cons r3
  obtain ⟨rfl, rfl, rfl⟩ := trodAll_nil r4
  obtain rfl : args = #[v0, v1, v2, v3, v4] := by cases args; simp_all
  obtain ⟨rfl, rfl⟩ := trodVars_none hV
  obtain ⟨y0, cs0, k0, m0⟩ := arg_open (c00_cell W) lay0 (hval 0 22 v0 rfl rfl) h0
  rw [ag0] at m0
  obtain ⟨y1, cs1, k1, m1⟩ := arg_open (c00_cell W) lay1 (hval 1 9 v1 rfl rfl) h1
  rw [ag1] at m1
  obtain ⟨y2, cs2, k2, m2⟩ := arg_open (c00_cell W) lay2 (hval 2 9 v2 rfl rfl) h2
  rw [ag2] at m2
  obtain ⟨y3, cs3, k3, m3⟩ := arg_open (c00_cell W) lay3 (hval 3 9 v3 rfl rfl) h3
  rw [ag3] at m3
  obtain ⟨y4, cs4, k4, m4⟩ := arg_open (c00_cell W) lay4 (hval 4 4 v4 rfl rfl) h4
  rw [ag4] at m4
  obtain ⟨ml, hml⟩ := int_shaped (P := Tryz.prog) (zero := #[.int .i64 0]) (g := 0) (t := 3) (k := .i64) hsh (of_decide_eq_true (by kernel_rfl)) (by kernel_rfl) rfl (by kernel_rfl) (by kernel_rfl) Tryz.underlying3
  obtain ⟨z, hz⟩ := app y0 y1 y2 y3 y4
  refine (law_calls (P := Tryz.prog) (W := W) (T := [tab_pow10, (0, #[Value.int .i64 ml])]) (List.forall_mem_cons.2 ⟨tab_laid (name := "internal/strconv.uint64pow10") hL (by kernel_rfl) (g := 1) (by kernel_rfl) (t := 278) (e := 242) (n := 20) (by kernel_rfl) (by kernel_rfl) (by kernel_rfl) (by kernel_rfl) (by kernel_rfl), List.forall_mem_cons.2 ⟨hml, fun p hp => by cases hp⟩⟩) (s := F_wlvlaw28_TaleBlocks_sig) (al := [⟨false, flat (.sl (.pr .str (.pr .str .bool))) y0, v0⟩, ⟨false, flat .str y1, v1⟩, ⟨false, flat .str y2, v2⟩, ⟨false, flat .str y3, v3⟩, ⟨false, flat .bool y4, v4⟩]) (y := (true, z)) (F_wlvlaw28_TaleBlocks_sound (T := [tab_pow10, (0, #[Value.int .i64 ml])]) (List.mem_cons_self) ⟨ml, (List.mem_cons_of_mem _ (List.mem_cons_self))⟩) rfl rfl rfl Tryz.func3 (List.forall_mem_cons.2 ⟨Arg.mk_ok k0 m0, List.forall_mem_cons.2 ⟨Arg.mk_ok k1 m1, List.forall_mem_cons.2 ⟨Arg.mk_ok k2 m2, List.forall_mem_cons.2 ⟨Arg.mk_ok k3 m3, List.forall_mem_cons.2 ⟨Arg.mk_ok k4 m4, fun a h => by cases h⟩⟩⟩⟩⟩) hz fun st' h => ?_).mono fun e W' ⟨he, hb⟩ => ?_
  · have e := ex z
    rw [h] at e
    injection e
  · subst he
    exact ⟨_, rfl, law_post rfl rfl Tryz.underlying4 (by kernel_rfl) (by kernel_rfl) hW' rfl rfl rfl hb⟩
theorem over : Rows.taleBlocksRow.holds Tryz.pinned (OpenSpec.ofChange Rows.taleBlocksSpec) :=
  OpenClaim.holds_of_wide 3 Tryz.f3 rfl rfl rfl rfl rfl rfl rfl ⟨rfl, rfl, rfl, rfl, rfl⟩ rfl rfl rfl rfl rfl (by kernel_rfl) Tryz.func3 (by kernel_rfl)
    (of_decide_eq_true (by kernel_rfl)) (by unfold Func.isWrapper; first | (rw [if_pos (by decide +kernel)]; kernel_rfl) | (rw [if_neg (by decide +kernel)]; exact ⟨rfl, rfl⟩))
    (fun os started H enc _ => lifted os started H enc)
theorem proved : Rows.TaleBlocksCardSaid :=
  Claim7.holds_tied_plain_at .later [] _ _ _ _ over (fun _ h => by cases h) (by kernel_rfl) (fun _ h => by cases h) taleBlocks_row_tie rfl ⟨rfl, rfl⟩ (by kernel_rfl) rfl
    (fun f fn hf hfn => by
      obtain rfl : f = 3 := Option.some.inj ((show Tryz.prog.funcNamed "wayleave/wlvlaw28.TaleBlocks" = some 3 by kernel_rfl).symm.trans hf) |>.symm
      obtain rfl : fn = Tryz.f3 := (Option.some.inj (Tryz.func3.symm.trans hfn)).symm
      exact ⟨by kernel_rfl, fun j t ht => by
        rw [Tryz.params3] at ht
        have hm : t ∈ [22, 9, 9, 9, 4] := by simpa using Array.mem_of_getElem? ht
        have hall : ([22, 9, 9, 9, 4].all fun u => !Tryz.prog.wantsStandIn u) = true := by kernel_rfl
        exact (show Tryz.prog.wantsStandIn t = false by simpa using List.all_eq_true.1 hall t hm)⟩)
    (by kernel_rfl)
#print axioms proved
end Go.Proofs.YtifbhefbhlbofaaGreatDoor.taleBlocks
