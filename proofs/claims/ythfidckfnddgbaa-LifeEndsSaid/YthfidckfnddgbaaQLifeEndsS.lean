/- The functions of the law compute what their Lean functions tell. -/
import Derived.Test.YthfidckfnddgbaaPe
import Derived.Test.YthfidckfnddgbaaQLife
import Derived.Test.YthfidckfnddgbaaQLifeP
namespace Go.Proofs.Ythfidckfnddgbaa
open Pv
theorem F_life_carries_sound : SoundFn Try.prog 7 F_life_carries_sig ⟨F_life_carries⟩ := by
  have h := fn_sound (E := F_life_carries_env) (by unfold Env.ok; exact fun p h => by cases h) (A := F_life_carries_ann) (f := 7) (fn := Try.f7) (s := F_life_carries_sig) Try.func7
  rw [F_life_carries_text] at h
  exact h
theorem F_life_ended_sound : SoundFn Try.prog 8 F_life_ended_sig ⟨F_life_ended⟩ := by
  have h := fn_sound (E := F_life_ended_env) (by unfold Env.ok; exact fun p h => by cases h) (A := F_life_ended_ann) (f := 8) (fn := Try.f8) (s := F_life_ended_sig) Try.func8
  rw [F_life_ended_text] at h
  exact h
theorem F_life_fault_sound : SoundFn Try.prog 9 F_life_fault_sig ⟨F_life_fault⟩ := by
  have h := fn_sound (E := F_life_fault_env) (by unfold Env.ok; exact fun p h => by cases h) (A := F_life_fault_ann) (f := 9) (fn := Try.f9) (s := F_life_fault_sig) Try.func9
  rw [F_life_fault_text] at h
  exact h
theorem F_life_Recv_sound : SoundFn Try.prog 6 F_life_Recv_sig ⟨F_life_Recv⟩ := by
  have h := fn_sound (E := F_life_Recv_env) (by unfold Env.ok; exact List.forall_mem_cons.2 ⟨F_life_carries_sound, List.forall_mem_cons.2 ⟨F_life_ended_sound, List.forall_mem_cons.2 ⟨F_life_fault_sound, fun p h => by cases h⟩⟩⟩) (A := F_life_Recv_ann) (f := 6) (fn := Try.f6) (s := F_life_Recv_sig) Try.func6
  rw [F_life_Recv_text] at h
  exact h
theorem F_wlvlaw14_first_sound : SoundFn Try.prog 4 F_wlvlaw14_first_sig ⟨F_wlvlaw14_first⟩ := by
  have h := fn_sound (E := F_wlvlaw14_first_env) (by unfold Env.ok; exact List.forall_mem_cons.2 ⟨F_life_Recv_sound, fun p h => by cases h⟩) (A := F_wlvlaw14_first_ann) (f := 4) (fn := Try.f4) (s := F_wlvlaw14_first_sig) Try.func4
  rw [F_wlvlaw14_first_text] at h
  exact h
theorem F_life_Send_sound : SoundFn Try.prog 5 F_life_Send_sig ⟨F_life_Send⟩ := by
  have h := fn_sound (E := F_life_Send_env) (by unfold Env.ok; exact List.forall_mem_cons.2 ⟨F_life_carries_sound, List.forall_mem_cons.2 ⟨F_life_ended_sound, fun p h => by cases h⟩⟩) (A := F_life_Send_ann) (f := 5) (fn := Try.f5) (s := F_life_Send_sig) Try.func5
  rw [F_life_Send_text] at h
  exact h
theorem F_wlvlaw14_LifeEnds_sound : SoundFn Try.prog 3 F_wlvlaw14_LifeEnds_sig ⟨F_wlvlaw14_LifeEnds⟩ := by
  have h := fn_sound (E := F_wlvlaw14_LifeEnds_env) (by unfold Env.ok; exact List.forall_mem_cons.2 ⟨F_wlvlaw14_first_sound, List.forall_mem_cons.2 ⟨F_life_Send_sound, List.forall_mem_cons.2 ⟨F_life_Recv_sound, fun p h => by cases h⟩⟩⟩) (A := F_wlvlaw14_LifeEnds_ann) (f := 3) (fn := Try.f3) (s := F_wlvlaw14_LifeEnds_sig) Try.func3
  rw [F_wlvlaw14_LifeEnds_text] at h
  exact h
end Go.Proofs.Ythfidckfnddgbaa
