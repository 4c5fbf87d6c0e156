/- The functions compute what their Lean functions tell. -/
import Derived.Test.YtgcgdfjldeihkaaDoorPe
import Derived.Test.YtgcgdfjldeihkaaDoorQB64
namespace Go.Proofs.YtgcgdfjldeihkaaDoor
open Pv
theorem F_strings_trimRightByte_sound {T : Tab} : SoundFn Tryd.prog T 36 F_strings_trimRightByte_sig ⟨F_strings_trimRightByte⟩ := by
  have h := fn_sound (T := T) (E := F_strings_trimRightByte_env) (by unfold Env.ok; exact fun p h => by cases h) (A := F_strings_trimRightByte_ann) (f := 36) (fn := Tryd.f36) (s := F_strings_trimRightByte_sig) Tryd.func36
  rw [F_strings_trimRightByte_text] at h
  exact h
theorem F_strings_makeASCIISet_sound {T : Tab} : SoundFn Tryd.prog T 37 F_strings_makeASCIISet_sig ⟨F_strings_makeASCIISet⟩ := by
  have h := fn_sound (T := T) (E := F_strings_makeASCIISet_env) (by unfold Env.ok; exact fun p h => by cases h) (A := F_strings_makeASCIISet_ann) (f := 37) (fn := Tryd.f37) (s := F_strings_makeASCIISet_sig) Tryd.func37
  rw [F_strings_makeASCIISet_text] at h
  exact h
theorem F_strings_asciiSet_contains_sound {T : Tab} : SoundFn Tryd.prog T 46 F_strings_asciiSet_contains_sig ⟨F_strings_asciiSet_contains⟩ := by
  have h := fn_sound (T := T) (E := F_strings_asciiSet_contains_env) (by unfold Env.ok; exact fun p h => by cases h) (A := F_strings_asciiSet_contains_ann) (f := 46) (fn := Tryd.f46) (s := F_strings_asciiSet_contains_sig) Tryd.func46
  rw [F_strings_asciiSet_contains_text] at h
  exact h
theorem F_strings_trimRightASCII_sound {T : Tab} : SoundFn Tryd.prog T 38 F_strings_trimRightASCII_sig ⟨F_strings_trimRightASCII⟩ := by
  have h := fn_sound (T := T) (E := F_strings_trimRightASCII_env) (by unfold Env.ok; exact List.forall_mem_cons.2 ⟨F_strings_asciiSet_contains_sound, fun p h => by cases h⟩) (A := F_strings_trimRightASCII_ann) (f := 38) (fn := Tryd.f38) (s := F_strings_trimRightASCII_sig) Tryd.func38
  rw [F_strings_trimRightASCII_text] at h
  exact h
theorem F_unicode_utf8_RuneStart_sound {T : Tab} : SoundFn Tryd.prog T 58 F_unicode_utf8_RuneStart_sig ⟨F_unicode_utf8_RuneStart⟩ := by
  have h := fn_sound (T := T) (E := F_unicode_utf8_RuneStart_env) (by unfold Env.ok; exact fun p h => by cases h) (A := F_unicode_utf8_RuneStart_ann) (f := 58) (fn := Tryd.f58) (s := F_unicode_utf8_RuneStart_sig) Tryd.func58
  rw [F_unicode_utf8_RuneStart_text] at h
  exact h
theorem F_unicode_utf8_decodeRuneInStringSlow_sound {T : Tab} : SoundFn Tryd.prog T 67 F_unicode_utf8_decodeRuneInStringSlow_sig ⟨F_unicode_utf8_decodeRuneInStringSlow⟩ := by
  have h := fn_sound (T := T) (E := F_unicode_utf8_decodeRuneInStringSlow_env) (by unfold Env.ok; exact fun p h => by cases h) (A := F_unicode_utf8_decodeRuneInStringSlow_ann) (f := 67) (fn := Tryd.f67) (s := F_unicode_utf8_decodeRuneInStringSlow_sig) Tryd.func67
  rw [F_unicode_utf8_decodeRuneInStringSlow_text] at h
  exact h
theorem F_unicode_utf8_DecodeRuneInString_sound {T : Tab} : SoundFn Tryd.prog T 59 F_unicode_utf8_DecodeRuneInString_sig ⟨F_unicode_utf8_DecodeRuneInString⟩ := by
  have h := fn_sound (T := T) (E := F_unicode_utf8_DecodeRuneInString_env) (by unfold Env.ok; exact List.forall_mem_cons.2 ⟨F_unicode_utf8_decodeRuneInStringSlow_sound, fun p h => by cases h⟩) (A := F_unicode_utf8_DecodeRuneInString_ann) (f := 59) (fn := Tryd.f59) (s := F_unicode_utf8_DecodeRuneInString_sig) Tryd.func59
  rw [F_unicode_utf8_DecodeRuneInString_text] at h
  exact h
theorem F_unicode_utf8_DecodeLastRuneInString_sound {T : Tab} : SoundFn Tryd.prog T 47 F_unicode_utf8_DecodeLastRuneInString_sig ⟨F_unicode_utf8_DecodeLastRuneInString⟩ := by
  have h := fn_sound (T := T) (E := F_unicode_utf8_DecodeLastRuneInString_env) (by unfold Env.ok; exact List.forall_mem_cons.2 ⟨F_unicode_utf8_RuneStart_sound, List.forall_mem_cons.2 ⟨F_unicode_utf8_DecodeRuneInString_sound, fun p h => by cases h⟩⟩) (A := F_unicode_utf8_DecodeLastRuneInString_ann) (f := 47) (fn := Tryd.f47) (s := F_unicode_utf8_DecodeLastRuneInString_sig) Tryd.func47
  rw [F_unicode_utf8_DecodeLastRuneInString_text] at h
  exact h
theorem F_unicode_utf8_ValidRune_sound {T : Tab} : SoundFn Tryd.prog T 68 F_unicode_utf8_ValidRune_sig ⟨F_unicode_utf8_ValidRune⟩ := by
  have h := fn_sound (T := T) (E := F_unicode_utf8_ValidRune_env) (by unfold Env.ok; exact fun p h => by cases h) (A := F_unicode_utf8_ValidRune_ann) (f := 68) (fn := Tryd.f68) (s := F_unicode_utf8_ValidRune_sig) Tryd.func68
  rw [F_unicode_utf8_ValidRune_text] at h
  exact h
theorem F_internal_bytealg_Cutover_sound {T : Tab} : SoundFn Tryd.prog T 69 F_internal_bytealg_Cutover_sig ⟨F_internal_bytealg_Cutover⟩ := by
  have h := fn_sound (T := T) (E := F_internal_bytealg_Cutover_env) (by unfold Env.ok; exact fun p h => by cases h) (A := F_internal_bytealg_Cutover_ann) (f := 69) (fn := Tryd.f69) (s := F_internal_bytealg_Cutover_sig) Tryd.func69
  rw [F_internal_bytealg_Cutover_text] at h
  exact h
theorem F_strings_ContainsRune_sound {T : Tab} : SoundFn Tryd.prog T 48 F_strings_ContainsRune_sig ⟨F_strings_ContainsRune⟩ := by
  have h := fn_sound (T := T) (E := F_strings_ContainsRune_env) (by unfold Env.ok; exact fun p h => by cases h) (A := F_strings_ContainsRune_ann) (f := 48) (fn := Tryd.f48) (s := F_strings_ContainsRune_sig) Tryd.func48
  rw [F_strings_ContainsRune_text] at h
  exact h
theorem F_strings_trimRightUnicode_sound {T : Tab} : SoundFn Tryd.prog T 39 F_strings_trimRightUnicode_sig ⟨F_strings_trimRightUnicode⟩ := by
  have h := fn_sound (T := T) (E := F_strings_trimRightUnicode_env) (by unfold Env.ok; exact List.forall_mem_cons.2 ⟨F_unicode_utf8_DecodeLastRuneInString_sound, List.forall_mem_cons.2 ⟨F_strings_ContainsRune_sound, fun p h => by cases h⟩⟩) (A := F_strings_trimRightUnicode_ann) (f := 39) (fn := Tryd.f39) (s := F_strings_trimRightUnicode_sig) Tryd.func39
  rw [F_strings_trimRightUnicode_text] at h
  exact h
theorem F_strings_TrimRight_sound {T : Tab} : SoundFn Tryd.prog T 24 F_strings_TrimRight_sig ⟨F_strings_TrimRight⟩ := by
  have h := fn_sound (T := T) (E := F_strings_TrimRight_env) (by unfold Env.ok; exact List.forall_mem_cons.2 ⟨F_strings_trimRightByte_sound, List.forall_mem_cons.2 ⟨F_strings_makeASCIISet_sound, List.forall_mem_cons.2 ⟨F_strings_trimRightASCII_sound, List.forall_mem_cons.2 ⟨F_strings_trimRightUnicode_sound, fun p h => by cases h⟩⟩⟩⟩) (A := F_strings_TrimRight_ann) (f := 24) (fn := Tryd.f24) (s := F_strings_TrimRight_sig) Tryd.func24
  rw [F_strings_TrimRight_text] at h
  exact h
theorem F_b64_Decode_sound {T : Tab} : SoundFn Tryd.prog T 12 F_b64_Decode_sig ⟨F_b64_Decode⟩ := by
  have h := fn_sound (T := T) (E := F_b64_Decode_env) (by unfold Env.ok; exact List.forall_mem_cons.2 ⟨F_b64_Encode_sound, List.forall_mem_cons.2 ⟨F_strings_TrimRight_sound, List.forall_mem_cons.2 ⟨F_strings_IndexByte_sound, fun p h => by cases h⟩⟩⟩) (A := F_b64_Decode_ann) (f := 12) (fn := Tryd.f12) (s := F_b64_Decode_sig) Tryd.func12
  rw [F_b64_Decode_text] at h
  exact h
theorem F_wlvlaw2_first_sound {T : Tab} : SoundFn Tryd.prog T 11 F_wlvlaw2_first_sig ⟨F_wlvlaw2_first⟩ := by
  have h := fn_sound (T := T) (E := F_wlvlaw2_first_env) (by unfold Env.ok; exact List.forall_mem_cons.2 ⟨F_b64_Decode_sound, List.forall_mem_cons.2 ⟨F_b64_Encode_sound, fun p h => by cases h⟩⟩) (A := F_wlvlaw2_first_ann) (f := 11) (fn := Tryd.f11) (s := F_wlvlaw2_first_sig) Tryd.func11
  rw [F_wlvlaw2_first_text] at h
  exact h
theorem F_wlvref_Bytes_sound {T : Tab} : SoundFn Tryd.prog T 16 F_wlvref_Bytes_sig ⟨F_wlvref_Bytes⟩ := by
  have h := fn_sound (T := T) (E := F_wlvref_Bytes_env) (by unfold Env.ok; exact fun p h => by cases h) (A := F_wlvref_Bytes_ann) (f := 16) (fn := Tryd.f16) (s := F_wlvref_Bytes_sig) Tryd.func16
  rw [F_wlvref_Bytes_text] at h
  exact h
theorem F_wlvref_Copy_sound {T : Tab} : SoundFn Tryd.prog T 17 F_wlvref_Copy_sig ⟨F_wlvref_Copy⟩ := by
  have h := fn_sound (T := T) (E := F_wlvref_Copy_env) (by unfold Env.ok; exact fun p h => by cases h) (A := F_wlvref_Copy_ann) (f := 17) (fn := Tryd.f17) (s := F_wlvref_Copy_sig) Tryd.func17
  rw [F_wlvref_Copy_text] at h
  exact h
theorem F_wlvlaw2_B64Back_sound {T : Tab} : SoundFn Tryd.prog T 4 F_wlvlaw2_B64Back_sig ⟨F_wlvlaw2_B64Back⟩ := by
  have h := fn_sound (T := T) (E := F_wlvlaw2_B64Back_env) (by unfold Env.ok; exact List.forall_mem_cons.2 ⟨F_wlvlaw2_first_sound, List.forall_mem_cons.2 ⟨F_b64_Decode_sound, List.forall_mem_cons.2 ⟨F_b64_Encode_sound, List.forall_mem_cons.2 ⟨F_wlvref_Bytes_sound, List.forall_mem_cons.2 ⟨F_wlvref_Copy_sound, fun p h => by cases h⟩⟩⟩⟩⟩) (A := F_wlvlaw2_B64Back_ann) (f := 4) (fn := Tryd.f4) (s := F_wlvlaw2_B64Back_sig) Tryd.func4
  rw [F_wlvlaw2_B64Back_text] at h
  exact h
theorem F_wlvlaw2_short_sound {T : Tab} : SoundFn Tryd.prog T 18 F_wlvlaw2_short_sig ⟨F_wlvlaw2_short⟩ := by
  have h := fn_sound (T := T) (E := F_wlvlaw2_short_env) (by unfold Env.ok; exact List.forall_mem_cons.2 ⟨F_b64_Decode_sound, fun p h => by cases h⟩) (A := F_wlvlaw2_short_ann) (f := 18) (fn := Tryd.f18) (s := F_wlvlaw2_short_sig) Tryd.func18
  rw [F_wlvlaw2_short_text] at h
  exact h
theorem F_wlvlaw2_B64Joins_sound {T : Tab} : SoundFn Tryd.prog T 5 F_wlvlaw2_B64Joins_sig ⟨F_wlvlaw2_B64Joins⟩ := by
  have h := fn_sound (T := T) (E := F_wlvlaw2_B64Joins_env) (by unfold Env.ok; exact List.forall_mem_cons.2 ⟨F_wlvlaw2_first_sound, List.forall_mem_cons.2 ⟨F_b64_Decode_sound, List.forall_mem_cons.2 ⟨F_b64_Encode_sound, List.forall_mem_cons.2 ⟨F_wlvlaw2_short_sound, fun p h => by cases h⟩⟩⟩⟩) (A := F_wlvlaw2_B64Joins_ann) (f := 5) (fn := Tryd.f5) (s := F_wlvlaw2_B64Joins_sig) Tryd.func5
  rw [F_wlvlaw2_B64Joins_text] at h
  exact h
theorem F_wlvlaw2_B64Signs_sound {T : Tab} : SoundFn Tryd.prog T 6 F_wlvlaw2_B64Signs_sig ⟨F_wlvlaw2_B64Signs⟩ := by
  have h := fn_sound (T := T) (E := F_wlvlaw2_B64Signs_env) (by unfold Env.ok; exact List.forall_mem_cons.2 ⟨F_wlvlaw2_first_sound, List.forall_mem_cons.2 ⟨F_b64_Decode_sound, List.forall_mem_cons.2 ⟨F_b64_Encode_sound, fun p h => by cases h⟩⟩⟩) (A := F_wlvlaw2_B64Signs_ann) (f := 6) (fn := Tryd.f6) (s := F_wlvlaw2_B64Signs_sig) Tryd.func6
  rw [F_wlvlaw2_B64Signs_text] at h
  exact h
end Go.Proofs.YtgcgdfjldeihkaaDoor
