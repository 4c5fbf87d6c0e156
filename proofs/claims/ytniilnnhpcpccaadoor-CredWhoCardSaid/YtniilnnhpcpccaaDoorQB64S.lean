/- The functions compute what their Lean functions tell. -/
import Derived.Test.YtniilnnhpcpccaaDoorPe
import Derived.Test.YtniilnnhpcpccaaDoorQB64
namespace Go.Proofs.YtniilnnhpcpccaaDoor
open Pv
theorem F_strings_trimRightByte_sound : SoundFn Tryd.prog 23 F_strings_trimRightByte_sig ⟨F_strings_trimRightByte⟩ := by
  have h := fn_sound (E := F_strings_trimRightByte_env) (by unfold Env.ok; exact fun p h => by cases h) (A := F_strings_trimRightByte_ann) (f := 23) (fn := Tryd.f23) (s := F_strings_trimRightByte_sig) Tryd.func23
  rw [F_strings_trimRightByte_text] at h
  exact h
theorem F_strings_makeASCIISet_sound : SoundFn Tryd.prog 24 F_strings_makeASCIISet_sig ⟨F_strings_makeASCIISet⟩ := by
  have h := fn_sound (E := F_strings_makeASCIISet_env) (by unfold Env.ok; exact fun p h => by cases h) (A := F_strings_makeASCIISet_ann) (f := 24) (fn := Tryd.f24) (s := F_strings_makeASCIISet_sig) Tryd.func24
  rw [F_strings_makeASCIISet_text] at h
  exact h
theorem F_strings_asciiSet_contains_sound : SoundFn Tryd.prog 30 F_strings_asciiSet_contains_sig ⟨F_strings_asciiSet_contains⟩ := by
  have h := fn_sound (E := F_strings_asciiSet_contains_env) (by unfold Env.ok; exact fun p h => by cases h) (A := F_strings_asciiSet_contains_ann) (f := 30) (fn := Tryd.f30) (s := F_strings_asciiSet_contains_sig) Tryd.func30
  rw [F_strings_asciiSet_contains_text] at h
  exact h
theorem F_strings_trimRightASCII_sound : SoundFn Tryd.prog 25 F_strings_trimRightASCII_sig ⟨F_strings_trimRightASCII⟩ := by
  have h := fn_sound (E := F_strings_trimRightASCII_env) (by unfold Env.ok; exact List.forall_mem_cons.2 ⟨F_strings_asciiSet_contains_sound, fun p h => by cases h⟩) (A := F_strings_trimRightASCII_ann) (f := 25) (fn := Tryd.f25) (s := F_strings_trimRightASCII_sig) Tryd.func25
  rw [F_strings_trimRightASCII_text] at h
  exact h
theorem F_unicode_utf8_decodeRuneInStringSlow_sound : SoundFn Tryd.prog 20 F_unicode_utf8_decodeRuneInStringSlow_sig ⟨F_unicode_utf8_decodeRuneInStringSlow⟩ := by
  have h := fn_sound (E := F_unicode_utf8_decodeRuneInStringSlow_env) (by unfold Env.ok; exact fun p h => by cases h) (A := F_unicode_utf8_decodeRuneInStringSlow_ann) (f := 20) (fn := Tryd.f20) (s := F_unicode_utf8_decodeRuneInStringSlow_sig) Tryd.func20
  rw [F_unicode_utf8_decodeRuneInStringSlow_text] at h
  exact h
theorem F_unicode_utf8_DecodeRuneInString_sound : SoundFn Tryd.prog 14 F_unicode_utf8_DecodeRuneInString_sig ⟨F_unicode_utf8_DecodeRuneInString⟩ := by
  have h := fn_sound (E := F_unicode_utf8_DecodeRuneInString_env) (by unfold Env.ok; exact List.forall_mem_cons.2 ⟨F_unicode_utf8_decodeRuneInStringSlow_sound, fun p h => by cases h⟩) (A := F_unicode_utf8_DecodeRuneInString_ann) (f := 14) (fn := Tryd.f14) (s := F_unicode_utf8_DecodeRuneInString_sig) Tryd.func14
  rw [F_unicode_utf8_DecodeRuneInString_text] at h
  exact h
theorem F_unicode_utf8_RuneStart_sound : SoundFn Tryd.prog 37 F_unicode_utf8_RuneStart_sig ⟨F_unicode_utf8_RuneStart⟩ := by
  have h := fn_sound (E := F_unicode_utf8_RuneStart_env) (by unfold Env.ok; exact fun p h => by cases h) (A := F_unicode_utf8_RuneStart_ann) (f := 37) (fn := Tryd.f37) (s := F_unicode_utf8_RuneStart_sig) Tryd.func37
  rw [F_unicode_utf8_RuneStart_text] at h
  exact h
theorem F_unicode_utf8_DecodeLastRuneInString_sound : SoundFn Tryd.prog 31 F_unicode_utf8_DecodeLastRuneInString_sig ⟨F_unicode_utf8_DecodeLastRuneInString⟩ := by
  have h := fn_sound (E := F_unicode_utf8_DecodeLastRuneInString_env) (by unfold Env.ok; exact List.forall_mem_cons.2 ⟨F_unicode_utf8_DecodeRuneInString_sound, List.forall_mem_cons.2 ⟨F_unicode_utf8_RuneStart_sound, fun p h => by cases h⟩⟩) (A := F_unicode_utf8_DecodeLastRuneInString_ann) (f := 31) (fn := Tryd.f31) (s := F_unicode_utf8_DecodeLastRuneInString_sig) Tryd.func31
  rw [F_unicode_utf8_DecodeLastRuneInString_text] at h
  exact h
theorem F_internal_bytealg_Cutover_sound : SoundFn Tryd.prog 35 F_internal_bytealg_Cutover_sig ⟨F_internal_bytealg_Cutover⟩ := by
  have h := fn_sound (E := F_internal_bytealg_Cutover_env) (by unfold Env.ok; exact fun p h => by cases h) (A := F_internal_bytealg_Cutover_ann) (f := 35) (fn := Tryd.f35) (s := F_internal_bytealg_Cutover_sig) Tryd.func35
  rw [F_internal_bytealg_Cutover_text] at h
  exact h
theorem F_unicode_utf8_ValidRune_sound : SoundFn Tryd.prog 40 F_unicode_utf8_ValidRune_sig ⟨F_unicode_utf8_ValidRune⟩ := by
  have h := fn_sound (E := F_unicode_utf8_ValidRune_env) (by unfold Env.ok; exact fun p h => by cases h) (A := F_unicode_utf8_ValidRune_ann) (f := 40) (fn := Tryd.f40) (s := F_unicode_utf8_ValidRune_sig) Tryd.func40
  rw [F_unicode_utf8_ValidRune_text] at h
  exact h
theorem F_strings_ContainsRune_sound : SoundFn Tryd.prog 32 F_strings_ContainsRune_sig ⟨F_strings_ContainsRune⟩ := by
  have h := fn_sound (E := F_strings_ContainsRune_env) (by unfold Env.ok; exact fun p h => by cases h) (A := F_strings_ContainsRune_ann) (f := 32) (fn := Tryd.f32) (s := F_strings_ContainsRune_sig) Tryd.func32
  rw [F_strings_ContainsRune_text] at h
  exact h
theorem F_strings_trimRightUnicode_sound : SoundFn Tryd.prog 26 F_strings_trimRightUnicode_sig ⟨F_strings_trimRightUnicode⟩ := by
  have h := fn_sound (E := F_strings_trimRightUnicode_env) (by unfold Env.ok; exact List.forall_mem_cons.2 ⟨F_unicode_utf8_DecodeLastRuneInString_sound, List.forall_mem_cons.2 ⟨F_strings_ContainsRune_sound, fun p h => by cases h⟩⟩) (A := F_strings_trimRightUnicode_ann) (f := 26) (fn := Tryd.f26) (s := F_strings_trimRightUnicode_sig) Tryd.func26
  rw [F_strings_trimRightUnicode_text] at h
  exact h
theorem F_strings_TrimRight_sound : SoundFn Tryd.prog 16 F_strings_TrimRight_sig ⟨F_strings_TrimRight⟩ := by
  have h := fn_sound (E := F_strings_TrimRight_env) (by unfold Env.ok; exact List.forall_mem_cons.2 ⟨F_strings_trimRightByte_sound, List.forall_mem_cons.2 ⟨F_strings_makeASCIISet_sound, List.forall_mem_cons.2 ⟨F_strings_trimRightASCII_sound, List.forall_mem_cons.2 ⟨F_strings_trimRightUnicode_sound, fun p h => by cases h⟩⟩⟩⟩) (A := F_strings_TrimRight_ann) (f := 16) (fn := Tryd.f16) (s := F_strings_TrimRight_sig) Tryd.func16
  rw [F_strings_TrimRight_text] at h
  exact h
theorem F_b64_Decode_sound : SoundFn Tryd.prog 9 F_b64_Decode_sig ⟨F_b64_Decode⟩ := by
  have h := fn_sound (E := F_b64_Decode_env) (by unfold Env.ok; exact List.forall_mem_cons.2 ⟨F_b64_Encode_sound, List.forall_mem_cons.2 ⟨F_strings_TrimRight_sound, List.forall_mem_cons.2 ⟨F_strings_IndexByte_sound, fun p h => by cases h⟩⟩⟩) (A := F_b64_Decode_ann) (f := 9) (fn := Tryd.f9) (s := F_b64_Decode_sig) Tryd.func9
  rw [F_b64_Decode_text] at h
  exact h
theorem F_internal_stringslite_Cut_sound : SoundFn Tryd.prog 18 F_internal_stringslite_Cut_sig ⟨F_internal_stringslite_Cut⟩ := by
  have h := fn_sound (E := F_internal_stringslite_Cut_env) (by unfold Env.ok; exact List.forall_mem_cons.2 ⟨F_internal_stringslite_Index_sound, fun p h => by cases h⟩) (A := F_internal_stringslite_Cut_ann) (f := 18) (fn := Tryd.f18) (s := F_internal_stringslite_Cut_sig) Tryd.func18
  rw [F_internal_stringslite_Cut_text] at h
  exact h
theorem F_strings_Cut_sound : SoundFn Tryd.prog 10 F_strings_Cut_sig ⟨F_strings_Cut⟩ := by
  have h := fn_sound (E := F_strings_Cut_env) (by unfold Env.ok; exact List.forall_mem_cons.2 ⟨F_internal_stringslite_Cut_sound, fun p h => by cases h⟩) (A := F_strings_Cut_ann) (f := 10) (fn := Tryd.f10) (s := F_strings_Cut_sig) Tryd.func10
  rw [F_strings_Cut_text] at h
  exact h
theorem F_cred_plain_sound : SoundFn Tryd.prog 11 F_cred_plain_sig ⟨F_cred_plain⟩ := by
  have h := fn_sound (E := F_cred_plain_env) (by unfold Env.ok; exact fun p h => by cases h) (A := F_cred_plain_ann) (f := 11) (fn := Tryd.f11) (s := F_cred_plain_sig) Tryd.func11
  rw [F_cred_plain_text] at h
  exact h
theorem F_cred_Parse_sound : SoundFn Tryd.prog 6 F_cred_Parse_sig ⟨F_cred_Parse⟩ := by
  have h := fn_sound (E := F_cred_Parse_env) (by unfold Env.ok; exact List.forall_mem_cons.2 ⟨F_strings_EqualFold_sound, List.forall_mem_cons.2 ⟨F_b64_Decode_sound, List.forall_mem_cons.2 ⟨F_strings_Cut_sound, List.forall_mem_cons.2 ⟨F_cred_plain_sound, fun p h => by cases h⟩⟩⟩⟩) (A := F_cred_Parse_ann) (f := 6) (fn := Tryd.f6) (s := F_cred_Parse_sig) Tryd.func6
  rw [F_cred_Parse_text] at h
  exact h
theorem F_wlvlaw17_first_sound : SoundFn Tryd.prog 5 F_wlvlaw17_first_sig ⟨F_wlvlaw17_first⟩ := by
  have h := fn_sound (E := F_wlvlaw17_first_env) (by unfold Env.ok; exact List.forall_mem_cons.2 ⟨F_cred_Parse_sound, fun p h => by cases h⟩) (A := F_wlvlaw17_first_ann) (f := 5) (fn := Tryd.f5) (s := F_wlvlaw17_first_sig) Tryd.func5
  rw [F_wlvlaw17_first_text] at h
  exact h
theorem F_wlvlaw17_CredWho_sound : SoundFn Tryd.prog 4 F_wlvlaw17_CredWho_sig ⟨F_wlvlaw17_CredWho⟩ := by
  have h := fn_sound (E := F_wlvlaw17_CredWho_env) (by unfold Env.ok; exact List.forall_mem_cons.2 ⟨F_wlvlaw17_first_sound, List.forall_mem_cons.2 ⟨F_cred_Parse_sound, List.forall_mem_cons.2 ⟨F_b64_Encode_sound, fun p h => by cases h⟩⟩⟩) (A := F_wlvlaw17_CredWho_ann) (f := 4) (fn := Tryd.f4) (s := F_wlvlaw17_CredWho_sig) Tryd.func4
  rw [F_wlvlaw17_CredWho_text] at h
  exact h
end Go.Proofs.YtniilnnhpcpccaaDoor
