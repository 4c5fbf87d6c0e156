/- The functions compute what their Lean functions tell. -/
import Derived.Test.YtgcgdfjldeihkaaDoorPe
import Derived.Test.YtgcgdfjldeihkaaDoorQB64T
import Derived.Test.YtgcgdfjldeihkaaDoorQB64S
import Derived.Test.YtgcgdfjldeihkaaDoorQB64d
namespace Go.Proofs.YtgcgdfjldeihkaaDoor
open Pv
theorem F_wlvref1_sign_sound : SoundFn Tryd.prog 29 F_wlvref1_sign_sig ⟨F_wlvref1_sign⟩ := by
  have h := fn_sound (E := F_wlvref1_sign_env) (by unfold Env.ok; exact fun p h => by cases h) (A := F_wlvref1_sign_ann) (f := 29) (fn := Tryd.f29) (s := F_wlvref1_sign_sig) Tryd.func29
  rw [F_wlvref1_sign_text] at h
  exact h
theorem F_wlvref1_value_sound : SoundFn Tryd.prog 26 F_wlvref1_value_sig ⟨F_wlvref1_value⟩ := by
  have h := fn_sound (E := F_wlvref1_value_env) (by unfold Env.ok; exact List.forall_mem_cons.2 ⟨F_wlvref1_sign_sound, fun p h => by cases h⟩) (A := F_wlvref1_value_ann) (f := 26) (fn := Tryd.f26) (s := F_wlvref1_value_sig) Tryd.func26
  rw [F_wlvref1_value_text] at h
  exact h
theorem F_wlvref1_Decode_sound : SoundFn Tryd.prog 13 F_wlvref1_Decode_sig ⟨F_wlvref1_Decode⟩ := by
  have h := fn_sound (E := F_wlvref1_Decode_env) (by unfold Env.ok; exact List.forall_mem_cons.2 ⟨F_wlvref1_Encode_sound, List.forall_mem_cons.2 ⟨F_wlvref1_value_sound, fun p h => by cases h⟩⟩) (A := F_wlvref1_Decode_ann) (f := 13) (fn := Tryd.f13) (s := F_wlvref1_Decode_sig) Tryd.func13
  rw [F_wlvref1_Decode_text] at h
  exact h
theorem F_wlvlaw2_B64Tells_sound : SoundFn Tryd.prog 3 F_wlvlaw2_B64Tells_sig ⟨F_wlvlaw2_B64Tells⟩ := by
  have h := fn_sound (E := F_wlvlaw2_B64Tells_env) (by unfold Env.ok; exact List.forall_mem_cons.2 ⟨F_wlvlaw2_first_sound, List.forall_mem_cons.2 ⟨F_b64_Decode_sound, List.forall_mem_cons.2 ⟨F_wlvref1_Decode_sound, List.forall_mem_cons.2 ⟨F_b64_Encode_sound, List.forall_mem_cons.2 ⟨F_wlvref1_Encode_sound, List.forall_mem_cons.2 ⟨F_wlvref_Bytes_sound, fun p h => by cases h⟩⟩⟩⟩⟩⟩) (A := F_wlvlaw2_B64Tells_ann) (f := 3) (fn := Tryd.f3) (s := F_wlvlaw2_B64Tells_sig) Tryd.func3
  rw [F_wlvlaw2_B64Tells_text] at h
  exact h
end Go.Proofs.YtgcgdfjldeihkaaDoor
