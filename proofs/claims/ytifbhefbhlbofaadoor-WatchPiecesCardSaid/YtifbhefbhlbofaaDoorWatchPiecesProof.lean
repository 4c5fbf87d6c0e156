/- Proved: wlvlaw27.WatchPieces returns true for every input that the row lets in, and leaves its arguments as they were; no condition beyond the row's own. The card's tie is the given one. -/
import Derived.Test.YtifbhefbhlbofaaDoorWatchPiecesM7
import Derived.Test.YtifbhefbhlbofaaDoorRows
import Derived.Test.YtifbhefbhlbofaaDoorCards
import Derived.Test.YtifbhefbhlbofaaDoorTie
import Derived.Test.YtifbhefbhlbofaaDoorChecked
import Derived.LaidMore
import Derived.Lay
import Derived.SevenTiedAt
import Derived.Stop.Joined
namespace Go.Proofs.YtifbhefbhlbofaaDoor.watchPieces
open Go.ChangeShapes Go.WideShapes Go.ChangeAt Go.RowKit Pv
open Go.ChangeMaps (open_string shut_string)
set_option linter.unusedVariables false
theorem own : ownKnob Tryd.prog.godebug = none := by kernel_rfl
theorem lay0 : lay Tryd.prog 40 39 = some (.sl (.pr (.int .i64) (.sl (.int .u8)))) := by kernel_rfl
theorem ag0 : isAg Tryd.prog 39 = false := by kernel_rfl
theorem lay1 : lay Tryd.prog 40 3 = some (.int .i64) := by kernel_rfl
theorem ag1 : isAg Tryd.prog 3 = false := by kernel_rfl
theorem ex (z : Ty.D (.pr (.sl (.sl (.pr (.int .i64) (.ptr 71)))) (.pr (.sl (.pr (.int .i64) (.pr (.ptr 73) (.pr (.ptr 73) (.pr .bool (.pr .bool (.pr .bool (.pr (.int .i64) (.pr (.mp 51) (.pr (.int .i64) (.pr (.os 63 (.sl (.pr (.int .i64) (.int .i64)))) (.pr (.pr (.int .i64) (.pr (.int .i64) (.pr (.int .i64) (.pr (.int .i64) (.pr (.int .i64) (.int .i64)))))) (.pr (.ptr 78) (.pr (.int .i64) .bool)))))))))))))) (.pr (.sl (.pr .wi (.pr .bool (.pr .bool (.pr .bool (.os 5 (.int .u8))))))) (.pr (.sl (.pr (.int .i64) (.sl (.int .u8)))) (.pr (.sl (.pr (.ptr 91) .bool)) (.pr (.sl (.pr (.os 109 (.pr .str (.pr .str .bool))) (.pr (.int .i64) (.int .i64)))) (.sl (.pr (.arr 31 (.int .i64)) (.pr (.arr 31 (.int .i64)) (.pr (.arr 31 (.int .i64)) (.os 3 (.int .i64))))))))))))) : (exitSt F_wlvlaw27_WatchPieces_sig (true, z)).map (fun st => st.φ 0) = some (.w false [.d .bool true]) := by kernel_rfl
theorem app (y0 : Ty.D (.sl (.pr (.int .i64) (.sl (.int .u8))))) (y1 : Ty.D (.int .i64)) (b0 : Vp.OpsB y0) : ∃ z : Ty.D (.pr (.sl (.sl (.pr (.int .i64) (.ptr 71)))) (.pr (.sl (.pr (.int .i64) (.pr (.ptr 73) (.pr (.ptr 73) (.pr .bool (.pr .bool (.pr .bool (.pr (.int .i64) (.pr (.mp 51) (.pr (.int .i64) (.pr (.os 63 (.sl (.pr (.int .i64) (.int .i64)))) (.pr (.pr (.int .i64) (.pr (.int .i64) (.pr (.int .i64) (.pr (.int .i64) (.pr (.int .i64) (.int .i64)))))) (.pr (.ptr 78) (.pr (.int .i64) .bool)))))))))))))) (.pr (.sl (.pr .wi (.pr .bool (.pr .bool (.pr .bool (.os 5 (.int .u8))))))) (.pr (.sl (.pr (.int .i64) (.sl (.int .u8)))) (.pr (.sl (.pr (.ptr 91) .bool)) (.pr (.sl (.pr (.os 109 (.pr .str (.pr .str .bool))) (.pr (.int .i64) (.int .i64)))) (.sl (.pr (.arr 31 (.int .i64)) (.pr (.arr 31 (.int .i64)) (.pr (.arr 31 (.int .i64)) (.os 3 (.int .i64)))))))))))), appF (α := Bool × Ty.D (.pr (.sl (.sl (.pr (.int .i64) (.ptr 71)))) (.pr (.sl (.pr (.int .i64) (.pr (.ptr 73) (.pr (.ptr 73) (.pr .bool (.pr .bool (.pr .bool (.pr (.int .i64) (.pr (.mp 51) (.pr (.int .i64) (.pr (.os 63 (.sl (.pr (.int .i64) (.int .i64)))) (.pr (.pr (.int .i64) (.pr (.int .i64) (.pr (.int .i64) (.pr (.int .i64) (.pr (.int .i64) (.int .i64)))))) (.pr (.ptr 78) (.pr (.int .i64) .bool)))))))))))))) (.pr (.sl (.pr .wi (.pr .bool (.pr .bool (.pr .bool (.os 5 (.int .u8))))))) (.pr (.sl (.pr (.int .i64) (.sl (.int .u8)))) (.pr (.sl (.pr (.ptr 91) .bool)) (.pr (.sl (.pr (.os 109 (.pr .str (.pr .str .bool))) (.pr (.int .i64) (.int .i64)))) (.sl (.pr (.arr 31 (.int .i64)) (.pr (.arr 31 (.int .i64)) (.pr (.arr 31 (.int .i64)) (.os 3 (.int .i64))))))))))))) [(.sl (.pr (.int .i64) (.sl (.int .u8)))), (.int .i64), (.sl (.sl (.pr (.int .i64) (.ptr 71)))), (.sl (.pr (.int .i64) (.pr (.ptr 73) (.pr (.ptr 73) (.pr .bool (.pr .bool (.pr .bool (.pr (.int .i64) (.pr (.mp 51) (.pr (.int .i64) (.pr (.os 63 (.sl (.pr (.int .i64) (.int .i64)))) (.pr (.pr (.int .i64) (.pr (.int .i64) (.pr (.int .i64) (.pr (.int .i64) (.pr (.int .i64) (.int .i64)))))) (.pr (.ptr 78) (.pr (.int .i64) .bool)))))))))))))), (.sl (.pr .wi (.pr .bool (.pr .bool (.pr .bool (.os 5 (.int .u8))))))), (.sl (.pr (.int .i64) (.sl (.int .u8)))), (.sl (.pr (.ptr 91) .bool)), (.sl (.pr (.os 109 (.pr .str (.pr .str .bool))) (.pr (.int .i64) (.int .i64)))), (.sl (.pr (.arr 31 (.int .i64)) (.pr (.arr 31 (.int .i64)) (.pr (.arr 31 (.int .i64)) (.os 3 (.int .i64))))))] F_wlvlaw27_WatchPieces [⟨(.sl (.pr (.int .i64) (.sl (.int .u8)))), y0⟩, ⟨(.int .i64), y1⟩, ⟨(.sl (.sl (.pr (.int .i64) (.ptr 71)))), ([] : List (List (Int × Int)))⟩, ⟨(.sl (.pr (.int .i64) (.pr (.ptr 73) (.pr (.ptr 73) (.pr .bool (.pr .bool (.pr .bool (.pr (.int .i64) (.pr (.mp 51) (.pr (.int .i64) (.pr (.os 63 (.sl (.pr (.int .i64) (.int .i64)))) (.pr (.pr (.int .i64) (.pr (.int .i64) (.pr (.int .i64) (.pr (.int .i64) (.pr (.int .i64) (.int .i64)))))) (.pr (.ptr 78) (.pr (.int .i64) .bool)))))))))))))), ([] : List (Int × Int × Int × Bool × Bool × Bool × Int × Int × Int × List (List (Int × Int)) × (Int × Int × Int × Int × Int × Int) × Int × Int × Bool))⟩, ⟨(.sl (.pr .wi (.pr .bool (.pr .bool (.pr .bool (.os 5 (.int .u8))))))), ([] : List (Option Int × Bool × Bool × Bool × List Int))⟩, ⟨(.sl (.pr (.int .i64) (.sl (.int .u8)))), ([] : List (Int × List Int))⟩, ⟨(.sl (.pr (.ptr 91) .bool)), ([] : List (Int × Bool))⟩, ⟨(.sl (.pr (.os 109 (.pr .str (.pr .str .bool))) (.pr (.int .i64) (.int .i64)))), ([] : List (List (List Int × List Int × Bool) × Int × Int))⟩, ⟨(.sl (.pr (.arr 31 (.int .i64)) (.pr (.arr 31 (.int .i64)) (.pr (.arr 31 (.int .i64)) (.os 3 (.int .i64)))))), ([] : List (List Int × List Int × List Int × List Int))⟩] = some (true, z) :=
  let ⟨z, hz⟩ := WatchPieces_true y0 y1 b0
  ⟨z, appF_c (appF_c (appF_c (appF_c (appF_c (appF_c (appF_c (appF_c (appF_c (appF_n hz)))))))))⟩
set_option maxRecDepth 100000 in
theorem lifted (os : Os) (started : os.Started) (H : Type) (enc : TypeId × Value → H) :
    ReturnsInHanded {} Tryd.checked os 5 .any (fun w args => (Rows.watchPiecesSpec.pre enc Tryd.prog Tryd.f5 [] false w args ∧ laidMetH Tryd.prog Rows.watchPiecesRow.laid w) ∧ sizedMet enc Tryd.prog Tryd.f5 (OpenSpec.ofChange Rows.watchPiecesSpec) false w args)
      (Rows.watchPiecesSpec.post enc Tryd.prog Tryd.f5 false true false false) := by
  refine handed_of_laid_shaped (C := Tryd.checked) (X := fun w _ => laidMetH Tryd.prog Rows.watchPiecesRow.laid w) (fun _ _ _ hh h => h.of_heap hh) own started (by kernel_rfl) Tryd.func5
    (ChangeSpec.witness_shaped (enc := enc) (C := Tryd.checked) (os := os) (X := fun w _ => laidMetH Tryd.prog Rows.watchPiecesRow.laid w) false (World.laidAll Tryd.prog os Rows.watchPiecesRow.laid) #[.slice none 0 0, .int .i64 0] 8 (World.laidAll_os _ _ _)
      (World.shaped_of_ZipB (by kernel_rfl) (by kernel_rfl)) (by kernel_rfl) (by kernel_rfl) (by kernel_rfl)
      (by rw [MakeChecks.laidMetH_plain _ _ _ (by kernel_rfl)]; exact laidMet_laidAll _ (by kernel_rfl) (by kernel_rfl))) ?_
  intro W base args ds gs before hval0 hW hL hsh
  have hval : ∀ (j : Nat) t v, Tryd.f5.params[j]? = some t → args[j]? = some v → Value.okWide Tryd.prog W .any base t v := hval0
  have hW' := hW
  obtain ⟨p, q, hA0, hV, rfl, hfz, hnd⟩ := hW
  have hA : DataW.TrodAll enc Tryd.prog W 0 (fun _ => true) true Tryd.f5.params.toList args.toList ds p := hA0
  rw [Tryd.params5] at hA hval
  obtain ⟨v0, vs0, d0, ds0, p0, q0, hargs, rfl, rfl, h0, r0⟩ := trodAll_cons hA
  obtain ⟨v1, vs1, d1, ds1, p1, q1, rfl, rfl, rfl, h1, r1⟩ := trodAll_cons r0
  obtain ⟨rfl, rfl, rfl⟩ := trodAll_nil r1
  obtain rfl : args = #[v0, v1] := by cases args; simp_all
  obtain ⟨rfl, rfl⟩ := trodVars_none hV
  obtain ⟨y0, cs0, k0, m0⟩ := arg_open (c00_cell W) lay0 (hval 0 39 v0 rfl rfl) h0
  rw [ag0] at m0
  obtain ⟨y1, cs1, k1, m1⟩ := arg_open (c00_cell W) lay1 (hval 1 3 v1 rfl rfl) h1
  rw [ag1] at m1
  obtain ⟨ml, hml⟩ := int_shaped (P := Tryd.prog) (zero := #[.int .i64 0]) (g := 0) (t := 3) (k := .i64) hsh (of_decide_eq_true (by kernel_rfl)) (by kernel_rfl) rfl (by kernel_rfl) (by kernel_rfl) Tryd.underlying3
  obtain ⟨z, hz⟩ := app y0 y1 (Vp.ops_of k0)
  refine (law_calls (P := Tryd.prog) (W := W) (T := [(0, #[Value.int .i64 ml])]) (List.forall_mem_cons.2 ⟨hml, fun p hp => by cases hp⟩) (s := F_wlvlaw27_WatchPieces_sig) (al := [⟨false, flat (.sl (.pr (.int .i64) (.sl (.int .u8)))) y0, v0⟩, ⟨false, flat (.int .i64) y1, v1⟩]) (y := (true, z)) (F_wlvlaw27_WatchPieces_sound (T := [(0, #[Value.int .i64 ml])]) ⟨ml, (List.mem_cons_self)⟩) rfl rfl rfl Tryd.func5 (List.forall_mem_cons.2 ⟨Arg.mk_ok k0 m0, List.forall_mem_cons.2 ⟨Arg.mk_ok k1 m1, fun a h => by cases h⟩⟩) hz fun st' h => ?_).mono fun e W' ⟨he, hb⟩ => ?_
  · have e := ex z
    rw [h] at e
    injection e
  · subst he
    exact ⟨_, rfl, law_post rfl rfl Tryd.underlying4 (by kernel_rfl) (by kernel_rfl) hW' rfl rfl rfl hb⟩
theorem over : Rows.watchPiecesRow.holds Tryd.pinned (OpenSpec.ofChange Rows.watchPiecesSpec) :=
  OpenClaim.holds_of_wide 5 Tryd.f5 rfl rfl rfl rfl rfl rfl rfl ⟨rfl, rfl, rfl, rfl, rfl⟩ rfl rfl rfl rfl rfl (by kernel_rfl) Tryd.func5 (by kernel_rfl)
    (of_decide_eq_true (by kernel_rfl)) (by unfold Func.isWrapper; first | (rw [if_pos (by decide +kernel)]; kernel_rfl) | (rw [if_neg (by decide +kernel)]; exact ⟨rfl, rfl⟩))
    (fun os started H enc _ => lifted os started H enc)
theorem proved : Rows.WatchPiecesCardSaid :=
  Claim7.holds_tied_plain_at .later [] _ _ _ _ over (fun _ h => by cases h) (by kernel_rfl) (fun _ h => by cases h) watchPieces_row_tie rfl ⟨rfl, rfl⟩ (by kernel_rfl) rfl
    (fun f fn hf hfn => by
      obtain rfl : f = 5 := Option.some.inj ((show Tryd.prog.funcNamed "wayleave/wlvlaw27.WatchPieces" = some 5 by kernel_rfl).symm.trans hf) |>.symm
      obtain rfl : fn = Tryd.f5 := (Option.some.inj (Tryd.func5.symm.trans hfn)).symm
      exact ⟨by kernel_rfl, fun j t ht => by
        rw [Tryd.params5] at ht
        have hm : t ∈ [39, 3] := by simpa using Array.mem_of_getElem? ht
        have hall : ([39, 3].all fun u => !Tryd.prog.wantsStandIn u) = true := by kernel_rfl
        exact (show Tryd.prog.wantsStandIn t = false by simpa using List.all_eq_true.1 hall t hm)⟩)
    (by kernel_rfl)
#print axioms proved
end Go.Proofs.YtifbhefbhlbofaaDoor.watchPieces
