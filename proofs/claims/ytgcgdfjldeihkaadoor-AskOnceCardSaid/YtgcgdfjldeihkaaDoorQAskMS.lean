/- The functions compute what their Lean functions tell. -/
import Derived.Test.YtgcgdfjldeihkaaDoorPe
import Derived.Test.YtgcgdfjldeihkaaDoorQAskM
import Derived.Test.YtgcgdfjldeihkaaDoorQAskLS
import Derived.Test.YtgcgdfjldeihkaaDoorQItoa
namespace Go.Proofs.YtgcgdfjldeihkaaDoor
open Pv
theorem F_wlvlaw6_Few_sound {T : Tab} : SoundFn Tryd.prog T 22 F_wlvlaw6_Few_sig ⟨F_wlvlaw6_Few⟩ := by
  have h := fn_sound (T := T) (E := F_wlvlaw6_Few_env) (by unfold Env.ok; exact fun p h => by cases h) (A := F_wlvlaw6_Few_ann) (f := 22) (fn := Tryd.f22) (s := F_wlvlaw6_Few_sig) Tryd.func22
  rw [F_wlvlaw6_Few_text] at h
  exact h
theorem F_ask_Answer_sound {T : Tab} (h_pow10 : tab_pow10 ∈ T) : SoundFn Tryd.prog T 23 F_ask_Answer_sig ⟨F_ask_Answer⟩ := by
  have h := fn_sound (T := T) (E := F_ask_Answer_env) (by unfold Env.ok; exact List.forall_mem_cons.2 ⟨F_strconv_Itoa_sound h_pow10, fun p h => by cases h⟩) (A := F_ask_Answer_ann) (f := 23) (fn := Tryd.f23) (s := F_ask_Answer_sig) Tryd.func23
  rw [F_ask_Answer_text] at h
  exact h
theorem F_wlvlaw24_AskOnce_sound {T : Tab} (h_pow10 : tab_pow10 ∈ T) : SoundFn Tryd.prog T 9 F_wlvlaw24_AskOnce_sig ⟨F_wlvlaw24_AskOnce⟩ := by
  have h := fn_sound (T := T) (E := F_wlvlaw24_AskOnce_env) (by unfold Env.ok; exact List.forall_mem_cons.2 ⟨F_wlvlaw24_first_sound, List.forall_mem_cons.2 ⟨F_ask_Read_sound, List.forall_mem_cons.2 ⟨F_wlvlaw6_Few_sound, List.forall_mem_cons.2 ⟨F_ask_Answer_sound h_pow10, fun p h => by cases h⟩⟩⟩⟩) (A := F_wlvlaw24_AskOnce_ann) (f := 9) (fn := Tryd.f9) (s := F_wlvlaw24_AskOnce_sig) Tryd.func9
  rw [F_wlvlaw24_AskOnce_text] at h
  exact h
theorem F_wlvlaw24_AskAnswers_sound {T : Tab} (h_pow10 : tab_pow10 ∈ T) : SoundFn Tryd.prog T 10 F_wlvlaw24_AskAnswers_sig ⟨F_wlvlaw24_AskAnswers⟩ := by
  have h := fn_sound (T := T) (E := F_wlvlaw24_AskAnswers_env) (by unfold Env.ok; exact List.forall_mem_cons.2 ⟨F_wlvlaw24_first_sound, List.forall_mem_cons.2 ⟨F_ask_Answer_sound h_pow10, fun p h => by cases h⟩⟩) (A := F_wlvlaw24_AskAnswers_ann) (f := 10) (fn := Tryd.f10) (s := F_wlvlaw24_AskAnswers_sig) Tryd.func10
  rw [F_wlvlaw24_AskAnswers_text] at h
  exact h
end Go.Proofs.YtgcgdfjldeihkaaDoor
