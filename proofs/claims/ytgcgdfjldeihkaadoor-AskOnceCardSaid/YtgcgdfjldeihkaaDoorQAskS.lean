/- The functions compute what their Lean functions tell. -/
import Derived.Test.YtgcgdfjldeihkaaDoorPe
import Derived.Test.YtgcgdfjldeihkaaDoorQAsk
import Derived.Test.YtgcgdfjldeihkaaDoorQB64S
namespace Go.Proofs.YtgcgdfjldeihkaaDoor
open Pv
theorem F_internal_stringslite_HasPrefix_sound {T : Tab} : SoundFn Tryd.prog T 61 F_internal_stringslite_HasPrefix_sig ⟨F_internal_stringslite_HasPrefix⟩ := by
  have h := fn_sound (T := T) (E := F_internal_stringslite_HasPrefix_env) (by unfold Env.ok; exact fun p h => by cases h) (A := F_internal_stringslite_HasPrefix_ann) (f := 61) (fn := Tryd.f61) (s := F_internal_stringslite_HasPrefix_sig) Tryd.func61
  rw [F_internal_stringslite_HasPrefix_text] at h
  exact h
theorem F_internal_stringslite_TrimPrefix_sound {T : Tab} : SoundFn Tryd.prog T 51 F_internal_stringslite_TrimPrefix_sig ⟨F_internal_stringslite_TrimPrefix⟩ := by
  have h := fn_sound (T := T) (E := F_internal_stringslite_TrimPrefix_env) (by unfold Env.ok; exact List.forall_mem_cons.2 ⟨F_internal_stringslite_HasPrefix_sound, fun p h => by cases h⟩) (A := F_internal_stringslite_TrimPrefix_ann) (f := 51) (fn := Tryd.f51) (s := F_internal_stringslite_TrimPrefix_sig) Tryd.func51
  rw [F_internal_stringslite_TrimPrefix_text] at h
  exact h
theorem F_strings_TrimPrefix_sound {T : Tab} : SoundFn Tryd.prog T 42 F_strings_TrimPrefix_sig ⟨F_strings_TrimPrefix⟩ := by
  have h := fn_sound (T := T) (E := F_strings_TrimPrefix_env) (by unfold Env.ok; exact List.forall_mem_cons.2 ⟨F_internal_stringslite_TrimPrefix_sound, fun p h => by cases h⟩) (A := F_strings_TrimPrefix_ann) (f := 42) (fn := Tryd.f42) (s := F_strings_TrimPrefix_sig) Tryd.func42
  rw [F_strings_TrimPrefix_text] at h
  exact h
theorem F_ask_named_sound {T : Tab} : SoundFn Tryd.prog T 30 F_ask_named_sig ⟨F_ask_named⟩ := by
  have h := fn_sound (T := T) (E := F_ask_named_env) (by unfold Env.ok; exact List.forall_mem_cons.2 ⟨F_strings_IndexByte_sound, List.forall_mem_cons.2 ⟨F_strings_TrimPrefix_sound, fun p h => by cases h⟩⟩) (A := F_ask_named_ann) (f := 30) (fn := Tryd.f30) (s := F_ask_named_sig) Tryd.func30
  rw [F_ask_named_text] at h
  exact h
theorem F_strings_trimLeftByte_sound {T : Tab} : SoundFn Tryd.prog T 52 F_strings_trimLeftByte_sig ⟨F_strings_trimLeftByte⟩ := by
  have h := fn_sound (T := T) (E := F_strings_trimLeftByte_env) (by unfold Env.ok; exact fun p h => by cases h) (A := F_strings_trimLeftByte_ann) (f := 52) (fn := Tryd.f52) (s := F_strings_trimLeftByte_sig) Tryd.func52
  rw [F_strings_trimLeftByte_text] at h
  exact h
theorem F_strings_trimLeftASCII_sound {T : Tab} : SoundFn Tryd.prog T 53 F_strings_trimLeftASCII_sig ⟨F_strings_trimLeftASCII⟩ := by
  have h := fn_sound (T := T) (E := F_strings_trimLeftASCII_env) (by unfold Env.ok; exact List.forall_mem_cons.2 ⟨F_strings_asciiSet_contains_sound, fun p h => by cases h⟩) (A := F_strings_trimLeftASCII_ann) (f := 53) (fn := Tryd.f53) (s := F_strings_trimLeftASCII_sig) Tryd.func53
  rw [F_strings_trimLeftASCII_text] at h
  exact h
theorem F_strings_trimLeftUnicode_sound {T : Tab} : SoundFn Tryd.prog T 54 F_strings_trimLeftUnicode_sig ⟨F_strings_trimLeftUnicode⟩ := by
  have h := fn_sound (T := T) (E := F_strings_trimLeftUnicode_env) (by unfold Env.ok; exact List.forall_mem_cons.2 ⟨F_strings_ContainsRune_sound, List.forall_mem_cons.2 ⟨F_unicode_utf8_DecodeRuneInString_sound, fun p h => by cases h⟩⟩) (A := F_strings_trimLeftUnicode_ann) (f := 54) (fn := Tryd.f54) (s := F_strings_trimLeftUnicode_sig) Tryd.func54
  rw [F_strings_trimLeftUnicode_text] at h
  exact h
theorem F_strings_Trim_sound {T : Tab} : SoundFn Tryd.prog T 43 F_strings_Trim_sig ⟨F_strings_Trim⟩ := by
  have h := fn_sound (T := T) (E := F_strings_Trim_env) (by unfold Env.ok; exact List.forall_mem_cons.2 ⟨F_strings_trimRightByte_sound, List.forall_mem_cons.2 ⟨F_strings_makeASCIISet_sound, List.forall_mem_cons.2 ⟨F_strings_trimRightASCII_sound, List.forall_mem_cons.2 ⟨F_strings_trimRightUnicode_sound, List.forall_mem_cons.2 ⟨F_strings_trimLeftByte_sound, List.forall_mem_cons.2 ⟨F_strings_trimLeftASCII_sound, List.forall_mem_cons.2 ⟨F_strings_trimLeftUnicode_sound, fun p h => by cases h⟩⟩⟩⟩⟩⟩⟩) (A := F_strings_Trim_ann) (f := 43) (fn := Tryd.f43) (s := F_strings_Trim_sig) Tryd.func43
  rw [F_strings_Trim_text] at h
  exact h
theorem F_ask_valued_sound {T : Tab} : SoundFn Tryd.prog T 31 F_ask_valued_sig ⟨F_ask_valued⟩ := by
  have h := fn_sound (T := T) (E := F_ask_valued_env) (by unfold Env.ok; exact List.forall_mem_cons.2 ⟨F_strings_IndexByte_sound, List.forall_mem_cons.2 ⟨F_strings_Trim_sound, fun p h => by cases h⟩⟩) (A := F_ask_valued_ann) (f := 31) (fn := Tryd.f31) (s := F_ask_valued_sig) Tryd.func31
  rw [F_ask_valued_text] at h
  exact h
theorem F_ask_barred_sound {T : Tab} : SoundFn Tryd.prog T 32 F_ask_barred_sig ⟨F_ask_barred⟩ := by
  have h := fn_sound (T := T) (E := F_ask_barred_env) (by unfold Env.ok; exact fun p h => by cases h) (A := F_ask_barred_ann) (f := 32) (fn := Tryd.f32) (s := F_ask_barred_sig) Tryd.func32
  rw [F_ask_barred_text] at h
  exact h
end Go.Proofs.YtgcgdfjldeihkaaDoor
