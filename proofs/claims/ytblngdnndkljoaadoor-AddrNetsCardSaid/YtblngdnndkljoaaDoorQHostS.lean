/- The functions compute what their Lean functions tell. -/
import Derived.Test.YtblngdnndkljoaaDoorPe
import Derived.Test.YtblngdnndkljoaaDoorQHost
import Derived.Test.YtblngdnndkljoaaDoorQCol
import Derived.Test.YtblngdnndkljoaaDoorQCon
import Derived.Test.YtblngdnndkljoaaDoorQLib
import Derived.Test.YtblngdnndkljoaaDoorQItoa
namespace Go.Proofs.YtblngdnndkljoaaDoor
open Pv
theorem F_addr_decimal_sound {T : Tab} (h_errs : has_errs T) (h_pow10 : tab_pow10 ∈ T) : SoundFn Tryd.prog T 73 F_addr_decimal_sig ⟨F_addr_decimal⟩ := by
  have h := fn_sound (T := T) (E := F_addr_decimal_env) (by unfold Env.ok; exact List.forall_mem_cons.2 ⟨F_strconv_Atoi_sound h_errs, List.forall_mem_cons.2 ⟨F_strconv_Itoa_sound h_pow10, fun p h => by cases h⟩⟩) (A := F_addr_decimal_ann) (f := 73) (fn := Tryd.f73) (s := F_addr_decimal_sig) Tryd.func73
  rw [F_addr_decimal_text] at h
  exact h
theorem F_addr_dotted_sound {T : Tab} (h_errs : has_errs T) (h_pow10 : tab_pow10 ∈ T) (h_maxlen : has_maxlen T) : SoundFn Tryd.prog T 59 F_addr_dotted_sig ⟨F_addr_dotted⟩ := by
  have h := fn_sound (T := T) (E := F_addr_dotted_env) (by unfold Env.ok; exact List.forall_mem_cons.2 ⟨F_addr_decimal_sound h_errs h_pow10, List.forall_mem_cons.2 ⟨F_strings_Split_sound h_maxlen, fun p h => by cases h⟩⟩) (A := F_addr_dotted_ann) (f := 59) (fn := Tryd.f59) (s := F_addr_dotted_sig) Tryd.func59
  rw [F_addr_dotted_text] at h
  exact h
theorem F_internal_stringslite_HasPrefix_sound {T : Tab} : SoundFn Tryd.prog T 125 F_internal_stringslite_HasPrefix_sig ⟨F_internal_stringslite_HasPrefix⟩ := by
  have h := fn_sound (T := T) (E := F_internal_stringslite_HasPrefix_env) (by unfold Env.ok; exact fun p h => by cases h) (A := F_internal_stringslite_HasPrefix_ann) (f := 125) (fn := Tryd.f125) (s := F_internal_stringslite_HasPrefix_sig) Tryd.func125
  rw [F_internal_stringslite_HasPrefix_text] at h
  exact h
theorem F_strings_HasPrefix_sound {T : Tab} : SoundFn Tryd.prog T 91 F_strings_HasPrefix_sig ⟨F_strings_HasPrefix⟩ := by
  have h := fn_sound (T := T) (E := F_strings_HasPrefix_env) (by unfold Env.ok; exact List.forall_mem_cons.2 ⟨F_internal_stringslite_HasPrefix_sound, fun p h => by cases h⟩) (A := F_strings_HasPrefix_ann) (f := 91) (fn := Tryd.f91) (s := F_strings_HasPrefix_sig) Tryd.func91
  rw [F_strings_HasPrefix_text] at h
  exact h
theorem F_addr_digit_sound {T : Tab} : SoundFn Tryd.prog T 92 F_addr_digit_sig ⟨F_addr_digit⟩ := by
  have h := fn_sound (T := T) (E := F_addr_digit_env) (by unfold Env.ok; exact fun p h => by cases h) (A := F_addr_digit_ann) (f := 92) (fn := Tryd.f92) (s := F_addr_digit_sig) Tryd.func92
  rw [F_addr_digit_text] at h
  exact h
theorem F_addr_coloned_sound {T : Tab} : SoundFn Tryd.prog T 60 F_addr_coloned_sig ⟨F_addr_coloned⟩ := by
  have h := fn_soundH (T := T) (E := F_addr_coloned_env) (by unfold Env.ok; exact List.forall_mem_cons.2 ⟨F_strings_HasPrefix_sound, List.forall_mem_cons.2 ⟨F_addr_digit_sound, fun p h => by cases h⟩⟩) (r := 29) (h := insTail) (A := F_addr_coloned_ann) (f := 60) (fn := Tryd.f60) (s := F_addr_coloned_sig) Tryd.func60 rfl rfl rfl F_addr_coloned_hand
  rw [F_addr_coloned_text] at h
  exact h
theorem F_internal_stringslite_TrimPrefix_sound {T : Tab} : SoundFn Tryd.prog T 128 F_internal_stringslite_TrimPrefix_sig ⟨F_internal_stringslite_TrimPrefix⟩ := by
  have h := fn_sound (T := T) (E := F_internal_stringslite_TrimPrefix_env) (by unfold Env.ok; exact List.forall_mem_cons.2 ⟨F_internal_stringslite_HasPrefix_sound, fun p h => by cases h⟩) (A := F_internal_stringslite_TrimPrefix_ann) (f := 128) (fn := Tryd.f128) (s := F_internal_stringslite_TrimPrefix_sig) Tryd.func128
  rw [F_internal_stringslite_TrimPrefix_text] at h
  exact h
theorem F_strings_TrimPrefix_sound {T : Tab} : SoundFn Tryd.prog T 94 F_strings_TrimPrefix_sig ⟨F_strings_TrimPrefix⟩ := by
  have h := fn_sound (T := T) (E := F_strings_TrimPrefix_env) (by unfold Env.ok; exact List.forall_mem_cons.2 ⟨F_internal_stringslite_TrimPrefix_sound, fun p h => by cases h⟩) (A := F_strings_TrimPrefix_ann) (f := 94) (fn := Tryd.f94) (s := F_strings_TrimPrefix_sig) Tryd.func94
  rw [F_strings_TrimPrefix_text] at h
  exact h
theorem F_addr_Plain_sound {T : Tab} : SoundFn Tryd.prog T 61 F_addr_Plain_sig ⟨F_addr_Plain⟩ := by
  have h := fn_sound (T := T) (E := F_addr_Plain_env) (by unfold Env.ok; exact List.forall_mem_cons.2 ⟨F_strings_TrimPrefix_sound, fun p h => by cases h⟩) (A := F_addr_Plain_ann) (f := 61) (fn := Tryd.f61) (s := F_addr_Plain_sig) Tryd.func61
  rw [F_addr_Plain_text] at h
  exact h
theorem F_addr_Parse_sound {T : Tab} (h_errs : has_errs T) (h_pow10 : tab_pow10 ∈ T) (h_maxlen : has_maxlen T) : SoundFn Tryd.prog T 26 F_addr_Parse_sig ⟨F_addr_Parse⟩ := by
  have h := fn_sound (T := T) (E := F_addr_Parse_env) (by unfold Env.ok; exact List.forall_mem_cons.2 ⟨F_addr_dotted_sound h_errs h_pow10 h_maxlen, List.forall_mem_cons.2 ⟨F_addr_coloned_sound, List.forall_mem_cons.2 ⟨F_addr_Plain_sound, fun p h => by cases h⟩⟩⟩) (A := F_addr_Parse_ann) (f := 26) (fn := Tryd.f26) (s := F_addr_Parse_sig) Tryd.func26
  rw [F_addr_Parse_text] at h
  exact h
theorem F_wlvlaw15_first_sound {T : Tab} (h_errs : has_errs T) (h_pow10 : tab_pow10 ∈ T) (h_maxlen : has_maxlen T) : SoundFn Tryd.prog T 24 F_wlvlaw15_first_sig ⟨F_wlvlaw15_first⟩ := by
  have h := fn_sound (T := T) (E := F_wlvlaw15_first_env) (by unfold Env.ok; exact List.forall_mem_cons.2 ⟨F_addr_Parse_sound h_errs h_pow10 h_maxlen, fun p h => by cases h⟩) (A := F_wlvlaw15_first_ann) (f := 24) (fn := Tryd.f24) (s := F_wlvlaw15_first_sig) Tryd.func24
  rw [F_wlvlaw15_first_text] at h
  exact h
theorem F_wlvlaw15_hex_sound {T : Tab} : SoundFn Tryd.prog T 25 F_wlvlaw15_hex_sig ⟨F_wlvlaw15_hex⟩ := by
  have h := fn_sound (T := T) (E := F_wlvlaw15_hex_env) (by unfold Env.ok; exact fun p h => by cases h) (A := F_wlvlaw15_hex_ann) (f := 25) (fn := Tryd.f25) (s := F_wlvlaw15_hex_sig) Tryd.func25
  rw [F_wlvlaw15_hex_text] at h
  exact h
theorem F_wlvref15_Mapped_sound {T : Tab} : SoundFn Tryd.prog T 27 F_wlvref15_Mapped_sig ⟨F_wlvref15_Mapped⟩ := by
  have h := fn_sound (T := T) (E := F_wlvref15_Mapped_env) (by unfold Env.ok; exact fun p h => by cases h) (A := F_wlvref15_Mapped_ann) (f := 27) (fn := Tryd.f27) (s := F_wlvref15_Mapped_sig) Tryd.func27
  rw [F_wlvref15_Mapped_text] at h
  exact h
theorem F_wlvlaw15_AddrShort_sound {T : Tab} (h_errs : has_errs T) (h_pow10 : tab_pow10 ∈ T) (h_maxlen : has_maxlen T) : SoundFn Tryd.prog T 6 F_wlvlaw15_AddrShort_sig ⟨F_wlvlaw15_AddrShort⟩ := by
  have h := fn_sound (T := T) (E := F_wlvlaw15_AddrShort_env) (by unfold Env.ok; exact List.forall_mem_cons.2 ⟨F_wlvlaw15_first_sound h_errs h_pow10 h_maxlen, List.forall_mem_cons.2 ⟨F_wlvlaw15_hex_sound, List.forall_mem_cons.2 ⟨F_addr_Parse_sound h_errs h_pow10 h_maxlen, List.forall_mem_cons.2 ⟨F_wlvref15_Mapped_sound, fun p h => by cases h⟩⟩⟩⟩) (A := F_wlvlaw15_AddrShort_ann) (f := 6) (fn := Tryd.f6) (s := F_wlvlaw15_AddrShort_sig) Tryd.func6
  rw [F_wlvlaw15_AddrShort_text] at h
  exact h
theorem F_addr_kept_sound {T : Tab} : SoundFn Tryd.prog T 62 F_addr_kept_sig ⟨F_addr_kept⟩ := by
  have h := fn_sound (T := T) (E := F_addr_kept_env) (by unfold Env.ok; exact fun p h => by cases h) (A := F_addr_kept_ann) (f := 62) (fn := Tryd.f62) (s := F_addr_kept_sig) Tryd.func62
  rw [F_addr_kept_text] at h
  exact h
theorem F_addr_In_sound {T : Tab} : SoundFn Tryd.prog T 28 F_addr_In_sig ⟨F_addr_In⟩ := by
  have h := fn_sound (T := T) (E := F_addr_In_env) (by unfold Env.ok; exact List.forall_mem_cons.2 ⟨F_addr_kept_sound, fun p h => by cases h⟩) (A := F_addr_In_ann) (f := 28) (fn := Tryd.f28) (s := F_addr_In_sig) Tryd.func28
  rw [F_addr_In_text] at h
  exact h
theorem F_wlvlaw15_AddrNets_sound {T : Tab} (h_errs : has_errs T) (h_pow10 : tab_pow10 ∈ T) (h_maxlen : has_maxlen T) : SoundFn Tryd.prog T 7 F_wlvlaw15_AddrNets_sig ⟨F_wlvlaw15_AddrNets⟩ := by
  have h := fn_sound (T := T) (E := F_wlvlaw15_AddrNets_env) (by unfold Env.ok; exact List.forall_mem_cons.2 ⟨F_wlvlaw15_first_sound h_errs h_pow10 h_maxlen, List.forall_mem_cons.2 ⟨F_addr_In_sound, fun p h => by cases h⟩⟩) (A := F_wlvlaw15_AddrNets_ann) (f := 7) (fn := Tryd.f7) (s := F_wlvlaw15_AddrNets_sig) Tryd.func7
  rw [F_wlvlaw15_AddrNets_text] at h
  exact h
theorem F_host_sign_sound {T : Tab} : SoundFn Tryd.prog T 69 F_host_sign_sig ⟨F_host_sign⟩ := by
  have h := fn_sound (T := T) (E := F_host_sign_env) (by unfold Env.ok; exact fun p h => by cases h) (A := F_host_sign_ann) (f := 69) (fn := Tryd.f69) (s := F_host_sign_sig) Tryd.func69
  rw [F_host_sign_text] at h
  exact h
theorem F_host_Name_sound {T : Tab} : SoundFn Tryd.prog T 32 F_host_Name_sig ⟨F_host_Name⟩ := by
  have h := fn_sound (T := T) (E := F_host_Name_env) (by unfold Env.ok; exact List.forall_mem_cons.2 ⟨F_host_sign_sound, fun p h => by cases h⟩) (A := F_host_Name_ann) (f := 32) (fn := Tryd.f32) (s := F_host_Name_sig) Tryd.func32
  rw [F_host_Name_text] at h
  exact h
theorem F_internal_stringslite_HasSuffix_sound {T : Tab} : SoundFn Tryd.prog T 134 F_internal_stringslite_HasSuffix_sig ⟨F_internal_stringslite_HasSuffix⟩ := by
  have h := fn_sound (T := T) (E := F_internal_stringslite_HasSuffix_env) (by unfold Env.ok; exact fun p h => by cases h) (A := F_internal_stringslite_HasSuffix_ann) (f := 134) (fn := Tryd.f134) (s := F_internal_stringslite_HasSuffix_sig) Tryd.func134
  rw [F_internal_stringslite_HasSuffix_text] at h
  exact h
theorem F_strings_HasSuffix_sound {T : Tab} : SoundFn Tryd.prog T 98 F_strings_HasSuffix_sig ⟨F_strings_HasSuffix⟩ := by
  have h := fn_sound (T := T) (E := F_strings_HasSuffix_env) (by unfold Env.ok; exact List.forall_mem_cons.2 ⟨F_internal_stringslite_HasSuffix_sound, fun p h => by cases h⟩) (A := F_strings_HasSuffix_ann) (f := 98) (fn := Tryd.f98) (s := F_strings_HasSuffix_sig) Tryd.func98
  rw [F_strings_HasSuffix_text] at h
  exact h
theorem F_host_place_sound {T : Tab} (h_errs : has_errs T) (h_pow10 : tab_pow10 ∈ T) (h_maxlen : has_maxlen T) : SoundFn Tryd.prog T 65 F_host_place_sig ⟨F_host_place⟩ := by
  have h := fn_sound (T := T) (E := F_host_place_env) (by unfold Env.ok; exact List.forall_mem_cons.2 ⟨F_addr_Parse_sound h_errs h_pow10 h_maxlen, List.forall_mem_cons.2 ⟨F_host_Name_sound, List.forall_mem_cons.2 ⟨F_strings_HasPrefix_sound, List.forall_mem_cons.2 ⟨F_strings_HasSuffix_sound, List.forall_mem_cons.2 ⟨F_strings_Contains_sound, fun p h => by cases h⟩⟩⟩⟩⟩) (A := F_host_place_ann) (f := 65) (fn := Tryd.f65) (s := F_host_place_sig) Tryd.func65
  rw [F_host_place_text] at h
  exact h
theorem F_host_Authority_sound {T : Tab} (h_errs : has_errs T) (h_pow10 : tab_pow10 ∈ T) (h_maxlen : has_maxlen T) : SoundFn Tryd.prog T 30 F_host_Authority_sig ⟨F_host_Authority⟩ := by
  have h := fn_sound (T := T) (E := F_host_Authority_env) (by unfold Env.ok; exact List.forall_mem_cons.2 ⟨F_strings_LastIndexByte_sound, List.forall_mem_cons.2 ⟨F_strconv_Atoi_sound h_errs, List.forall_mem_cons.2 ⟨F_host_place_sound h_errs h_pow10 h_maxlen, List.forall_mem_cons.2 ⟨F_strconv_Itoa_sound h_pow10, fun p h => by cases h⟩⟩⟩⟩) (A := F_host_Authority_ann) (f := 30) (fn := Tryd.f30) (s := F_host_Authority_sig) Tryd.func30
  rw [F_host_Authority_text] at h
  exact h
theorem F_wlvlaw16_first_sound {T : Tab} (h_errs : has_errs T) (h_pow10 : tab_pow10 ∈ T) (h_maxlen : has_maxlen T) : SoundFn Tryd.prog T 29 F_wlvlaw16_first_sig ⟨F_wlvlaw16_first⟩ := by
  have h := fn_sound (T := T) (E := F_wlvlaw16_first_env) (by unfold Env.ok; exact List.forall_mem_cons.2 ⟨F_host_Authority_sound h_errs h_pow10 h_maxlen, fun p h => by cases h⟩) (A := F_wlvlaw16_first_ann) (f := 29) (fn := Tryd.f29) (s := F_wlvlaw16_first_sig) Tryd.func29
  rw [F_wlvlaw16_first_text] at h
  exact h
theorem F_wlvref_Lower_sound {T : Tab} : SoundFn Tryd.prog T 52 F_wlvref_Lower_sig ⟨F_wlvref_Lower⟩ := by
  have h := fn_sound (T := T) (E := F_wlvref_Lower_env) (by unfold Env.ok; exact fun p h => by cases h) (A := F_wlvref_Lower_ann) (f := 52) (fn := Tryd.f52) (s := F_wlvref_Lower_sig) Tryd.func52
  rw [F_wlvref_Lower_text] at h
  exact h
theorem F_wlvref_Split_sound {T : Tab} : SoundFn Tryd.prog T 70 F_wlvref_Split_sig ⟨F_wlvref_Split⟩ := by
  have h := fn_sound (T := T) (E := F_wlvref_Split_env) (by unfold Env.ok; exact fun p h => by cases h) (A := F_wlvref_Split_ann) (f := 70) (fn := Tryd.f70) (s := F_wlvref_Split_sig) Tryd.func70
  rw [F_wlvref_Split_text] at h
  exact h
theorem F_wlvref15_Name_sound {T : Tab} : SoundFn Tryd.prog T 33 F_wlvref15_Name_sig ⟨F_wlvref15_Name⟩ := by
  have h := fn_sound (T := T) (E := F_wlvref15_Name_env) (by unfold Env.ok; exact List.forall_mem_cons.2 ⟨F_wlvref_Lower_sound, List.forall_mem_cons.2 ⟨F_wlvref_Split_sound, fun p h => by cases h⟩⟩) (A := F_wlvref15_Name_ann) (f := 33) (fn := Tryd.f33) (s := F_wlvref15_Name_sig) Tryd.func33
  rw [F_wlvref15_Name_text] at h
  exact h
theorem F_wlvref_Num_sound {T : Tab} : SoundFn Tryd.prog T 67 F_wlvref_Num_sig ⟨F_wlvref_Num⟩ := by
  have h := fn_sound (T := T) (E := F_wlvref_Num_env) (by unfold Env.ok; exact fun p h => by cases h) (A := F_wlvref_Num_ann) (f := 67) (fn := Tryd.f67) (s := F_wlvref_Num_sig) Tryd.func67
  rw [F_wlvref_Num_text] at h
  exact h
theorem F_wlvref15_four_sound {T : Tab} : SoundFn Tryd.prog T 68 F_wlvref15_four_sig ⟨F_wlvref15_four⟩ := by
  have h := fn_sound (T := T) (E := F_wlvref15_four_env) (by unfold Env.ok; exact List.forall_mem_cons.2 ⟨F_wlvref_Num_sound, List.forall_mem_cons.2 ⟨F_wlvref_Split_sound, fun p h => by cases h⟩⟩) (A := F_wlvref15_four_ann) (f := 68) (fn := Tryd.f68) (s := F_wlvref15_four_sig) Tryd.func68
  rw [F_wlvref15_four_text] at h
  exact h
theorem F_wlvref15_group_sound {T : Tab} : SoundFn Tryd.prog T 136 F_wlvref15_group_sig ⟨F_wlvref15_group⟩ := by
  have h := fn_sound (T := T) (E := F_wlvref15_group_env) (by unfold Env.ok; exact fun p h => by cases h) (A := F_wlvref15_group_ann) (f := 136) (fn := Tryd.f136) (s := F_wlvref15_group_sig) Tryd.func136
  rw [F_wlvref15_group_text] at h
  exact h
theorem F_wlvref15_groups_sound {T : Tab} : SoundFn Tryd.prog T 101 F_wlvref15_groups_sig ⟨F_wlvref15_groups⟩ := by
  have h := fn_sound (T := T) (E := F_wlvref15_groups_env) (by unfold Env.ok; exact List.forall_mem_cons.2 ⟨F_wlvref_Split_sound, List.forall_mem_cons.2 ⟨F_wlvref15_group_sound, fun p h => by cases h⟩⟩) (A := F_wlvref15_groups_ann) (f := 101) (fn := Tryd.f101) (s := F_wlvref15_groups_sig) Tryd.func101
  rw [F_wlvref15_groups_text] at h
  exact h
theorem F_wlvref15_eight_sound {T : Tab} : SoundFn Tryd.prog T 71 F_wlvref15_eight_sig ⟨F_wlvref15_eight⟩ := by
  have h := fn_sound (T := T) (E := F_wlvref15_eight_env) (by unfold Env.ok; exact List.forall_mem_cons.2 ⟨F_wlvref15_groups_sound, fun p h => by cases h⟩) (A := F_wlvref15_eight_ann) (f := 71) (fn := Tryd.f71) (s := F_wlvref15_eight_sig) Tryd.func71
  rw [F_wlvref15_eight_text] at h
  exact h
theorem F_wlvref15_Parse_sound {T : Tab} : SoundFn Tryd.prog T 35 F_wlvref15_Parse_sig ⟨F_wlvref15_Parse⟩ := by
  have h := fn_sound (T := T) (E := F_wlvref15_Parse_env) (by unfold Env.ok; exact List.forall_mem_cons.2 ⟨F_wlvref15_Mapped_sound, List.forall_mem_cons.2 ⟨F_wlvref15_four_sound, List.forall_mem_cons.2 ⟨F_wlvref15_eight_sound, fun p h => by cases h⟩⟩⟩) (A := F_wlvref15_Parse_ann) (f := 35) (fn := Tryd.f35) (s := F_wlvref15_Parse_sig) Tryd.func35
  rw [F_wlvref15_Parse_text] at h
  exact h
theorem F_wlvref15_Authority_sound {T : Tab} : SoundFn Tryd.prog T 31 F_wlvref15_Authority_sig ⟨F_wlvref15_Authority⟩ := by
  have h := fn_sound (T := T) (E := F_wlvref15_Authority_env) (by unfold Env.ok; exact List.forall_mem_cons.2 ⟨F_wlvref15_Name_sound, List.forall_mem_cons.2 ⟨F_wlvref15_Parse_sound, List.forall_mem_cons.2 ⟨F_wlvref_Num_sound, List.forall_mem_cons.2 ⟨F_wlvref15_four_sound, fun p h => by cases h⟩⟩⟩⟩) (A := F_wlvref15_Authority_ann) (f := 31) (fn := Tryd.f31) (s := F_wlvref15_Authority_sig) Tryd.func31
  rw [F_wlvref15_Authority_text] at h
  exact h
theorem F_wlvlaw16_HostReads_sound {T : Tab} (h_errs : has_errs T) (h_pow10 : tab_pow10 ∈ T) (h_maxlen : has_maxlen T) : SoundFn Tryd.prog T 8 F_wlvlaw16_HostReads_sig ⟨F_wlvlaw16_HostReads⟩ := by
  have h := fn_sound (T := T) (E := F_wlvlaw16_HostReads_env) (by unfold Env.ok; exact List.forall_mem_cons.2 ⟨F_wlvlaw16_first_sound h_errs h_pow10 h_maxlen, List.forall_mem_cons.2 ⟨F_host_Authority_sound h_errs h_pow10 h_maxlen, List.forall_mem_cons.2 ⟨F_wlvref15_Authority_sound, List.forall_mem_cons.2 ⟨F_host_Name_sound, List.forall_mem_cons.2 ⟨F_wlvref15_Name_sound, fun p h => by cases h⟩⟩⟩⟩⟩) (A := F_wlvlaw16_HostReads_ann) (f := 8) (fn := Tryd.f8) (s := F_wlvlaw16_HostReads_sig) Tryd.func8
  rw [F_wlvlaw16_HostReads_text] at h
  exact h
theorem F_wlvref_Dec_fuel_sound {T : Tab} : ∀ k : Nat, SoundFn Tryd.prog T 34 F_wlvref_Dec_sig ⟨F_wlvref_Dec_fuel k⟩
  | 0 => by
    intro F g st xs y tmf w args _ _ happ
    have e : none = some y := (appF_bot (α := (F_wlvref_Dec_sig).out.D) ((parsT (F_wlvref_Dec_sig).ps).map LT.ty) xs).symm.trans happ
    cases e
  | k + 1 => by
    have ih := F_wlvref_Dec_fuel_sound (T := T) k
    have h := fn_sound (T := T) (E := F_wlvref_Dec_env (F_wlvref_Dec_fuel k)) (by unfold Env.ok; exact List.forall_mem_cons.2 ⟨ih, fun p h => by cases h⟩) (A := F_wlvref_Dec_ann) (f := 34) (fn := Tryd.f34) (s := F_wlvref_Dec_sig) Tryd.func34
    rw [F_wlvref_Dec_text] at h
    exact h
theorem F_wlvref_Dec_sound {T : Tab} : SoundFn Tryd.prog T 34 F_wlvref_Dec_sig ⟨F_wlvref_Dec⟩ := F_wlvref_Dec_fuel_sound 64
theorem F_wlvlaw16_HostPorts_sound {T : Tab} (h_errs : has_errs T) (h_pow10 : tab_pow10 ∈ T) (h_maxlen : has_maxlen T) : SoundFn Tryd.prog T 9 F_wlvlaw16_HostPorts_sig ⟨F_wlvlaw16_HostPorts⟩ := by
  have h := fn_sound (T := T) (E := F_wlvlaw16_HostPorts_env) (by unfold Env.ok; exact List.forall_mem_cons.2 ⟨F_wlvlaw16_first_sound h_errs h_pow10 h_maxlen, List.forall_mem_cons.2 ⟨F_host_Authority_sound h_errs h_pow10 h_maxlen, List.forall_mem_cons.2 ⟨F_host_Name_sound, List.forall_mem_cons.2 ⟨F_wlvref_Dec_sound, List.forall_mem_cons.2 ⟨F_wlvref15_Parse_sound, fun p h => by cases h⟩⟩⟩⟩⟩) (A := F_wlvlaw16_HostPorts_ann) (f := 9) (fn := Tryd.f9) (s := F_wlvlaw16_HostPorts_sig) Tryd.func9
  rw [F_wlvlaw16_HostPorts_text] at h
  exact h
theorem F_wlvlaw16_HostNames_sound {T : Tab} (h_errs : has_errs T) (h_pow10 : tab_pow10 ∈ T) (h_maxlen : has_maxlen T) : SoundFn Tryd.prog T 10 F_wlvlaw16_HostNames_sig ⟨F_wlvlaw16_HostNames⟩ := by
  have h := fn_sound (T := T) (E := F_wlvlaw16_HostNames_env) (by unfold Env.ok; exact List.forall_mem_cons.2 ⟨F_wlvlaw16_first_sound h_errs h_pow10 h_maxlen, List.forall_mem_cons.2 ⟨F_host_Name_sound, fun p h => by cases h⟩⟩) (A := F_wlvlaw16_HostNames_ann) (f := 10) (fn := Tryd.f10) (s := F_wlvlaw16_HostNames_sig) Tryd.func10
  rw [F_wlvlaw16_HostNames_text] at h
  exact h
end Go.Proofs.YtblngdnndkljoaaDoor
