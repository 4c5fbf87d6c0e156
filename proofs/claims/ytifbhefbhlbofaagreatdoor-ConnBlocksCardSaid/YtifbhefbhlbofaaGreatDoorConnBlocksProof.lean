/- Proved: wlvlaw23.ConnBlocks returns true for every input that the row lets in, and leaves its arguments as they were; no condition beyond the row's own. The card's tie is the given one. -/
import Derived.Test.YtifbhefbhlbofaaGreatDoorConnBlocksM6
import Derived.Test.YtifbhefbhlbofaaGreatDoorRows
import Derived.Test.YtifbhefbhlbofaaGreatDoorCards
import Derived.Test.YtifbhefbhlbofaaGreatDoorTie
import Derived.Test.YtifbhefbhlbofaaGreatDoorChecked
import Derived.LaidMore
import Derived.Lay
import Derived.SevenTiedAt
import Derived.Stop.Joined
namespace Go.Proofs.YtifbhefbhlbofaaGreatDoor.connBlocks
open Go.ChangeShapes Go.WideShapes Go.ChangeAt Go.RowKit Pv
open Go.ChangeMaps (open_string shut_string)
set_option linter.unusedVariables false
theorem own : ownKnob Tryz.prog.godebug = none := by kernel_rfl
theorem lay0 : lay Tryz.prog 40 3 = some (.int .i64) := by kernel_rfl
theorem ag0 : isAg Tryz.prog 3 = false := by kernel_rfl
theorem lay1 : lay Tryz.prog 40 47 = some (.sl (.int .i64)) := by kernel_rfl
theorem ag1 : isAg Tryz.prog 47 = false := by kernel_rfl
theorem ex (z : Ty.D (.pr (.sl (.pr (.ptr 109) .bool)) (.pr (.sl (.pr (.os 26 (.pr .str (.pr .str .bool))) (.pr (.int .i64) (.int .i64)))) (.pr (.sl (.pr (.int .i64) (.sl (.int .u8)))) (.pr (.sl (.sl (.pr (.int .i64) (.ptr 139)))) (.pr (.sl (.pr (.pr (.int .i64) (.pr .bool (.pr (.int .i64) (.pr (.ptr 99) (.pr (.ptr 111) (.ptr 141)))))) (.pr (.int .i64) (.pr (.pr (.int .i64) (.pr (.int .i64) (.pr (.int .i64) (.pr (.int .i64) (.pr (.int .i64) (.int .i64)))))) (.pr (.ptr 179) (.pr (.os 5 (.int .u8)) (.pr .bool (.pr (.int .i64) (.pr .bool (.pr (.int .i64) (.pr (.mp 121) (.pr (.os 3 (.int .i64)) (.pr (.int .i64) (.pr (.int .i64) (.pr (.os 68 (.pr (.int .i64) (.pr (.int .i64) (.pr (.int .i64) (.pr (.sl (.pr .str (.pr .str .bool))) (.pr (.sl (.int .u8)) (.pr .bool (.pr .bool .bool)))))))) .bool))))))))))))))) (.pr (.sl (.pr (.int .i64) (.pr (.int .i64) (.int .i64)))) (.pr (.sl (.pr (.int .i64) (.pr (.int .i64) (.pr (.int .i64) (.pr .bool (.os 5 (.int .u8))))))) (.sl (.pr (.ptr 109) (.pr (.int .i64) (.int .i64)))))))))))) : (exitSt F_wlvlaw23_ConnBlocks_sig (true, z)).map (fun st => st.φ 0) = some (.w false [.d .bool true]) := by kernel_rfl
theorem app (y0 : Ty.D (.int .i64)) (y1 : Ty.D (.sl (.int .i64))) : ∃ z : Ty.D (.pr (.sl (.pr (.ptr 109) .bool)) (.pr (.sl (.pr (.os 26 (.pr .str (.pr .str .bool))) (.pr (.int .i64) (.int .i64)))) (.pr (.sl (.pr (.int .i64) (.sl (.int .u8)))) (.pr (.sl (.sl (.pr (.int .i64) (.ptr 139)))) (.pr (.sl (.pr (.pr (.int .i64) (.pr .bool (.pr (.int .i64) (.pr (.ptr 99) (.pr (.ptr 111) (.ptr 141)))))) (.pr (.int .i64) (.pr (.pr (.int .i64) (.pr (.int .i64) (.pr (.int .i64) (.pr (.int .i64) (.pr (.int .i64) (.int .i64)))))) (.pr (.ptr 179) (.pr (.os 5 (.int .u8)) (.pr .bool (.pr (.int .i64) (.pr .bool (.pr (.int .i64) (.pr (.mp 121) (.pr (.os 3 (.int .i64)) (.pr (.int .i64) (.pr (.int .i64) (.pr (.os 68 (.pr (.int .i64) (.pr (.int .i64) (.pr (.int .i64) (.pr (.sl (.pr .str (.pr .str .bool))) (.pr (.sl (.int .u8)) (.pr .bool (.pr .bool .bool)))))))) .bool))))))))))))))) (.pr (.sl (.pr (.int .i64) (.pr (.int .i64) (.int .i64)))) (.pr (.sl (.pr (.int .i64) (.pr (.int .i64) (.pr (.int .i64) (.pr .bool (.os 5 (.int .u8))))))) (.sl (.pr (.ptr 109) (.pr (.int .i64) (.int .i64))))))))))), appF (α := Bool × Ty.D (.pr (.sl (.pr (.ptr 109) .bool)) (.pr (.sl (.pr (.os 26 (.pr .str (.pr .str .bool))) (.pr (.int .i64) (.int .i64)))) (.pr (.sl (.pr (.int .i64) (.sl (.int .u8)))) (.pr (.sl (.sl (.pr (.int .i64) (.ptr 139)))) (.pr (.sl (.pr (.pr (.int .i64) (.pr .bool (.pr (.int .i64) (.pr (.ptr 99) (.pr (.ptr 111) (.ptr 141)))))) (.pr (.int .i64) (.pr (.pr (.int .i64) (.pr (.int .i64) (.pr (.int .i64) (.pr (.int .i64) (.pr (.int .i64) (.int .i64)))))) (.pr (.ptr 179) (.pr (.os 5 (.int .u8)) (.pr .bool (.pr (.int .i64) (.pr .bool (.pr (.int .i64) (.pr (.mp 121) (.pr (.os 3 (.int .i64)) (.pr (.int .i64) (.pr (.int .i64) (.pr (.os 68 (.pr (.int .i64) (.pr (.int .i64) (.pr (.int .i64) (.pr (.sl (.pr .str (.pr .str .bool))) (.pr (.sl (.int .u8)) (.pr .bool (.pr .bool .bool)))))))) .bool))))))))))))))) (.pr (.sl (.pr (.int .i64) (.pr (.int .i64) (.int .i64)))) (.pr (.sl (.pr (.int .i64) (.pr (.int .i64) (.pr (.int .i64) (.pr .bool (.os 5 (.int .u8))))))) (.sl (.pr (.ptr 109) (.pr (.int .i64) (.int .i64)))))))))))) [(.int .i64), (.sl (.int .i64)), (.sl (.pr (.ptr 109) .bool)), (.sl (.pr (.os 26 (.pr .str (.pr .str .bool))) (.pr (.int .i64) (.int .i64)))), (.sl (.pr (.int .i64) (.sl (.int .u8)))), (.sl (.sl (.pr (.int .i64) (.ptr 139)))), (.sl (.pr (.pr (.int .i64) (.pr .bool (.pr (.int .i64) (.pr (.ptr 99) (.pr (.ptr 111) (.ptr 141)))))) (.pr (.int .i64) (.pr (.pr (.int .i64) (.pr (.int .i64) (.pr (.int .i64) (.pr (.int .i64) (.pr (.int .i64) (.int .i64)))))) (.pr (.ptr 179) (.pr (.os 5 (.int .u8)) (.pr .bool (.pr (.int .i64) (.pr .bool (.pr (.int .i64) (.pr (.mp 121) (.pr (.os 3 (.int .i64)) (.pr (.int .i64) (.pr (.int .i64) (.pr (.os 68 (.pr (.int .i64) (.pr (.int .i64) (.pr (.int .i64) (.pr (.sl (.pr .str (.pr .str .bool))) (.pr (.sl (.int .u8)) (.pr .bool (.pr .bool .bool)))))))) .bool))))))))))))))), (.sl (.pr (.int .i64) (.pr (.int .i64) (.int .i64)))), (.sl (.pr (.int .i64) (.pr (.int .i64) (.pr (.int .i64) (.pr .bool (.os 5 (.int .u8))))))), (.sl (.pr (.ptr 109) (.pr (.int .i64) (.int .i64))))] F_wlvlaw23_ConnBlocks [⟨(.int .i64), y0⟩, ⟨(.sl (.int .i64)), y1⟩, ⟨(.sl (.pr (.ptr 109) .bool)), ([] : List (Int × Bool))⟩, ⟨(.sl (.pr (.os 26 (.pr .str (.pr .str .bool))) (.pr (.int .i64) (.int .i64)))), ([] : List (List (List Int × List Int × Bool) × Int × Int))⟩, ⟨(.sl (.pr (.int .i64) (.sl (.int .u8)))), ([] : List (Int × List Int))⟩, ⟨(.sl (.sl (.pr (.int .i64) (.ptr 139)))), ([] : List (List (Int × Int)))⟩, ⟨(.sl (.pr (.pr (.int .i64) (.pr .bool (.pr (.int .i64) (.pr (.ptr 99) (.pr (.ptr 111) (.ptr 141)))))) (.pr (.int .i64) (.pr (.pr (.int .i64) (.pr (.int .i64) (.pr (.int .i64) (.pr (.int .i64) (.pr (.int .i64) (.int .i64)))))) (.pr (.ptr 179) (.pr (.os 5 (.int .u8)) (.pr .bool (.pr (.int .i64) (.pr .bool (.pr (.int .i64) (.pr (.mp 121) (.pr (.os 3 (.int .i64)) (.pr (.int .i64) (.pr (.int .i64) (.pr (.os 68 (.pr (.int .i64) (.pr (.int .i64) (.pr (.int .i64) (.pr (.sl (.pr .str (.pr .str .bool))) (.pr (.sl (.int .u8)) (.pr .bool (.pr .bool .bool)))))))) .bool))))))))))))))), ([] : List ((Int × Bool × Int × Int × Int × Int) × Int × (Int × Int × Int × Int × Int × Int) × Int × List Int × Bool × Int × Bool × Int × Int × List Int × Int × Int × List (Int × Int × Int × List (List Int × List Int × Bool) × List Int × Bool × Bool × Bool) × Bool))⟩, ⟨(.sl (.pr (.int .i64) (.pr (.int .i64) (.int .i64)))), ([] : List (Int × Int × Int))⟩, ⟨(.sl (.pr (.int .i64) (.pr (.int .i64) (.pr (.int .i64) (.pr .bool (.os 5 (.int .u8))))))), ([] : List (Int × Int × Int × Bool × List Int))⟩, ⟨(.sl (.pr (.ptr 109) (.pr (.int .i64) (.int .i64)))), ([] : List (Int × Int × Int))⟩] = some (true, z) :=
  let ⟨z, hz⟩ := ConnBlocks_true y0 y1
  ⟨z, appF_c (appF_c (appF_c (appF_c (appF_c (appF_c (appF_c (appF_c (appF_c (appF_c (appF_n hz))))))))))⟩
set_option maxRecDepth 100000 in
theorem lifted (os : Os) (started : os.Started) (H : Type) (enc : TypeId × Value → H) :
    ReturnsInHanded {} Tryz.checked os 6 .any (fun w args => (Rows.connBlocksSpec.pre enc Tryz.prog Tryz.f6 [] false w args ∧ laidMetH Tryz.prog Rows.connBlocksRow.laid w) ∧ sizedMet enc Tryz.prog Tryz.f6 (OpenSpec.ofChange Rows.connBlocksSpec) false w args)
      (Rows.connBlocksSpec.post enc Tryz.prog Tryz.f6 false true false false) := by
  refine handed_of_laid_shaped (C := Tryz.checked) (X := fun w _ => laidMetH Tryz.prog Rows.connBlocksRow.laid w) (fun _ _ _ hh h => h.of_heap hh) own started (by kernel_rfl) Tryz.func6
    (ChangeSpec.witness_shaped (enc := enc) (C := Tryz.checked) (os := os) (X := fun w _ => laidMetH Tryz.prog Rows.connBlocksRow.laid w) false (World.laidAll Tryz.prog os Rows.connBlocksRow.laid) #[.int .i64 0, .slice none 0 0] 8 (World.laidAll_os _ _ _)
      (World.shaped_of_ZipB (by kernel_rfl) (by kernel_rfl)) (by kernel_rfl) (by kernel_rfl) (by kernel_rfl)
      (by rw [MakeChecks.laidMetH_plain _ _ _ (by kernel_rfl)]; exact laidMet_laidAll _ (by kernel_rfl) (by kernel_rfl))) ?_
  intro W base args ds gs before hval0 hW hL hsh
  have hval : ∀ (j : Nat) t v, Tryz.f6.params[j]? = some t → args[j]? = some v → Value.okWide Tryz.prog W .any base t v := hval0
  have hW' := hW
  obtain ⟨p, q, hA0, hV, rfl, hfz, hnd⟩ := hW
  have hA : DataW.TrodAll enc Tryz.prog W 0 (fun _ => true) true Tryz.f6.params.toList args.toList ds p := hA0
  rw [Tryz.params6] at hA hval
  obtain ⟨v0, vs0, d0, ds0, p0, q0, hargs, rfl, rfl, h0, r0⟩ := trodAll_cons hA
  obtain ⟨v1, vs1, d1, ds1, p1, q1, rfl, rfl, rfl, h1, r1⟩ := trodAll_cons r0
  obtain ⟨rfl, rfl, rfl⟩ := trodAll_nil r1
  obtain rfl : args = #[v0, v1] := by cases args; simp_all
  obtain ⟨rfl, rfl⟩ := trodVars_none hV
  obtain ⟨y0, cs0, k0, m0⟩ := arg_open (c00_cell W) lay0 (hval 0 3 v0 rfl rfl) h0
  rw [ag0] at m0
  obtain ⟨y1, cs1, k1, m1⟩ := arg_open (c00_cell W) lay1 (hval 1 47 v1 rfl rfl) h1
  rw [ag1] at m1
  obtain ⟨ml, hml⟩ := int_shaped (P := Tryz.prog) (zero := #[.int .i64 0]) (g := 0) (t := 3) (k := .i64) hsh (of_decide_eq_true (by kernel_rfl)) (by kernel_rfl) rfl (by kernel_rfl) (by kernel_rfl) Tryz.underlying3
  obtain ⟨z, hz⟩ := app y0 y1
  refine (law_calls (P := Tryz.prog) (W := W) (T := [(0, #[Value.int .i64 ml])]) (List.forall_mem_cons.2 ⟨hml, fun p hp => by cases hp⟩) (s := F_wlvlaw23_ConnBlocks_sig) (al := [⟨false, flat (.int .i64) y0, v0⟩, ⟨false, flat (.sl (.int .i64)) y1, v1⟩]) (y := (true, z)) (F_wlvlaw23_ConnBlocks_sound (T := [(0, #[Value.int .i64 ml])]) ⟨ml, (List.mem_cons_self)⟩) rfl rfl rfl Tryz.func6 (List.forall_mem_cons.2 ⟨Arg.mk_ok k0 m0, List.forall_mem_cons.2 ⟨Arg.mk_ok k1 m1, fun a h => by cases h⟩⟩) hz fun st' h => ?_).mono fun e W' ⟨he, hb⟩ => ?_
  · have e := ex z
    rw [h] at e
    injection e
  · subst he
    exact ⟨_, rfl, law_post rfl rfl Tryz.underlying4 (by kernel_rfl) (by kernel_rfl) hW' rfl rfl rfl hb⟩
theorem over : Rows.connBlocksRow.holds Tryz.pinned (OpenSpec.ofChange Rows.connBlocksSpec) :=
  OpenClaim.holds_of_wide 6 Tryz.f6 rfl rfl rfl rfl rfl rfl rfl ⟨rfl, rfl, rfl, rfl, rfl⟩ rfl rfl rfl rfl rfl (by kernel_rfl) Tryz.func6 (by kernel_rfl)
    (of_decide_eq_true (by kernel_rfl)) (by unfold Func.isWrapper; first | (rw [if_pos (by decide +kernel)]; kernel_rfl) | (rw [if_neg (by decide +kernel)]; exact ⟨rfl, rfl⟩))
    (fun os started H enc _ => lifted os started H enc)
theorem proved : Rows.ConnBlocksCardSaid :=
  Claim7.holds_tied_plain_at .later [] _ _ _ _ over (fun _ h => by cases h) (by kernel_rfl) (fun _ h => by cases h) connBlocks_row_tie rfl ⟨rfl, rfl⟩ (by kernel_rfl) rfl
    (fun f fn hf hfn => by
      obtain rfl : f = 6 := Option.some.inj ((show Tryz.prog.funcNamed "wayleave/wlvlaw23.ConnBlocks" = some 6 by kernel_rfl).symm.trans hf) |>.symm
      obtain rfl : fn = Tryz.f6 := (Option.some.inj (Tryz.func6.symm.trans hfn)).symm
      exact ⟨by kernel_rfl, fun j t ht => by
        rw [Tryz.params6] at ht
        have hm : t ∈ [3, 47] := by simpa using Array.mem_of_getElem? ht
        have hall : ([3, 47].all fun u => !Tryz.prog.wantsStandIn u) = true := by kernel_rfl
        exact (show Tryz.prog.wantsStandIn t = false by simpa using List.all_eq_true.1 hall t hm)⟩)
    (by kernel_rfl)
#print axioms proved
end Go.Proofs.YtifbhefbhlbofaaGreatDoor.connBlocks
