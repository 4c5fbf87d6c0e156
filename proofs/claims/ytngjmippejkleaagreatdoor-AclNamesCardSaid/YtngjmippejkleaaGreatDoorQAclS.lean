/- The functions compute what their Lean functions tell. -/
import Derived.Test.YtngjmippejkleaaGreatDoorPe
import Derived.Test.YtngjmippejkleaaGreatDoorQAcl
import Derived.Test.YtngjmippejkleaaGreatDoorQAclF
namespace Go.Proofs.YtngjmippejkleaaGreatDoor
open Pv
theorem F_internal_stringslite_HasSuffix_sound {T : Tab} : SoundFn Tryz.prog T 14 F_internal_stringslite_HasSuffix_sig ⟨F_internal_stringslite_HasSuffix⟩ := by
  have h := fn_sound (T := T) (E := F_internal_stringslite_HasSuffix_env) (by unfold Env.ok; exact fun p h => by cases h) (A := F_internal_stringslite_HasSuffix_ann) (f := 14) (fn := Tryz.f14) (s := F_internal_stringslite_HasSuffix_sig) Tryz.func14
  rw [F_internal_stringslite_HasSuffix_text] at h
  exact h
theorem F_strings_HasSuffix_sound {T : Tab} : SoundFn Tryz.prog T 9 F_strings_HasSuffix_sig ⟨F_strings_HasSuffix⟩ := by
  have h := fn_sound (T := T) (E := F_strings_HasSuffix_env) (by unfold Env.ok; exact List.forall_mem_cons.2 ⟨F_internal_stringslite_HasSuffix_sound, fun p h => by cases h⟩) (A := F_strings_HasSuffix_ann) (f := 9) (fn := Tryz.f9) (s := F_strings_HasSuffix_sig) Tryz.func9
  rw [F_strings_HasSuffix_text] at h
  exact h
theorem F_addr_kept_sound {T : Tab} : SoundFn Tryz.prog T 15 F_addr_kept_sig ⟨F_addr_kept⟩ := by
  have h := fn_sound (T := T) (E := F_addr_kept_env) (by unfold Env.ok; exact fun p h => by cases h) (A := F_addr_kept_ann) (f := 15) (fn := Tryz.f15) (s := F_addr_kept_sig) Tryz.func15
  rw [F_addr_kept_text] at h
  exact h
theorem F_addr_In_sound {T : Tab} : SoundFn Tryz.prog T 10 F_addr_In_sig ⟨F_addr_In⟩ := by
  have h := fn_sound (T := T) (E := F_addr_In_env) (by unfold Env.ok; exact List.forall_mem_cons.2 ⟨F_addr_kept_sound, fun p h => by cases h⟩) (A := F_addr_In_ann) (f := 10) (fn := Tryz.f10) (s := F_addr_In_sig) Tryz.func10
  rw [F_addr_In_text] at h
  exact h
theorem F_acl_Fits_sound {T : Tab} : SoundFn Tryz.prog T 6 F_acl_Fits_sig ⟨F_acl_Fits⟩ := by
  have h := fn_sound (T := T) (E := F_acl_Fits_env) (by unfold Env.ok; exact List.forall_mem_cons.2 ⟨F_strings_HasSuffix_sound, List.forall_mem_cons.2 ⟨F_addr_In_sound, fun p h => by cases h⟩⟩) (A := F_acl_Fits_ann) (f := 6) (fn := Tryz.f6) (s := F_acl_Fits_sig) Tryz.func6
  rw [F_acl_Fits_text] at h
  exact h
theorem F_wlvlaw19_AclNames_sound {T : Tab} : SoundFn Tryz.prog T 3 F_wlvlaw19_AclNames_sig ⟨F_wlvlaw19_AclNames⟩ := by
  have h := fn_sound (T := T) (E := F_wlvlaw19_AclNames_env) (by unfold Env.ok; exact List.forall_mem_cons.2 ⟨F_wlvlaw19_first_sound, List.forall_mem_cons.2 ⟨F_acl_Fits_sound, fun p h => by cases h⟩⟩) (A := F_wlvlaw19_AclNames_ann) (f := 3) (fn := Tryz.f3) (s := F_wlvlaw19_AclNames_sig) Tryz.func3
  rw [F_wlvlaw19_AclNames_text] at h
  exact h
end Go.Proofs.YtngjmippejkleaaGreatDoor
