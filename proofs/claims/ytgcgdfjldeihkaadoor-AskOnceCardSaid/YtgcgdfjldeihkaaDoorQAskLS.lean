/- The functions compute what their Lean functions tell. -/
import Derived.Test.YtgcgdfjldeihkaaDoorPe
import Derived.Test.YtgcgdfjldeihkaaDoorQAskL
import Derived.Test.YtgcgdfjldeihkaaDoorQAskc
namespace Go.Proofs.YtgcgdfjldeihkaaDoor
open Pv
theorem F_wlvlaw24_first_sound {T : Tab} : SoundFn Tryd.prog T 19 F_wlvlaw24_first_sig ⟨F_wlvlaw24_first⟩ := by
  have h := fn_sound (T := T) (E := F_wlvlaw24_first_env) (by unfold Env.ok; exact List.forall_mem_cons.2 ⟨F_ask_Read_sound, fun p h => by cases h⟩) (A := F_wlvlaw24_first_ann) (f := 19) (fn := Tryd.f19) (s := F_wlvlaw24_first_sig) Tryd.func19
  rw [F_wlvlaw24_first_text] at h
  exact h
theorem F_wlvlaw24_odd_sound {T : Tab} : SoundFn Tryd.prog T 21 F_wlvlaw24_odd_sig ⟨F_wlvlaw24_odd⟩ := by
  have h := fn_sound (T := T) (E := F_wlvlaw24_odd_env) (by unfold Env.ok; exact fun p h => by cases h) (A := F_wlvlaw24_odd_ann) (f := 21) (fn := Tryd.f21) (s := F_wlvlaw24_odd_sig) Tryd.func21
  rw [F_wlvlaw24_odd_text] at h
  exact h
theorem F_wlvlaw24_AskPseudo_sound {T : Tab} : SoundFn Tryd.prog T 7 F_wlvlaw24_AskPseudo_sig ⟨F_wlvlaw24_AskPseudo⟩ := by
  have h := fn_sound (T := T) (E := F_wlvlaw24_AskPseudo_env) (by unfold Env.ok; exact List.forall_mem_cons.2 ⟨F_wlvlaw24_first_sound, List.forall_mem_cons.2 ⟨F_ask_Read_sound, List.forall_mem_cons.2 ⟨F_wlvlaw24_odd_sound, fun p h => by cases h⟩⟩⟩) (A := F_wlvlaw24_AskPseudo_ann) (f := 7) (fn := Tryd.f7) (s := F_wlvlaw24_AskPseudo_sig) Tryd.func7
  rw [F_wlvlaw24_AskPseudo_text] at h
  exact h
theorem F_wlvlaw24_AskNames_sound {T : Tab} : SoundFn Tryd.prog T 8 F_wlvlaw24_AskNames_sig ⟨F_wlvlaw24_AskNames⟩ := by
  have h := fn_sound (T := T) (E := F_wlvlaw24_AskNames_env) (by unfold Env.ok; exact List.forall_mem_cons.2 ⟨F_wlvlaw24_first_sound, List.forall_mem_cons.2 ⟨F_ask_Read_sound, fun p h => by cases h⟩⟩) (A := F_wlvlaw24_AskNames_ann) (f := 8) (fn := Tryd.f8) (s := F_wlvlaw24_AskNames_sig) Tryd.func8
  rw [F_wlvlaw24_AskNames_text] at h
  exact h
end Go.Proofs.YtgcgdfjldeihkaaDoor
