/- The functions compute what their Lean functions tell. -/
import Derived.Test.YtgcgdfjldeihkaaPe
import Derived.Test.YtgcgdfjldeihkaaQSha
import Derived.Test.YtgcgdfjldeihkaaQPrm
import Derived.Test.YtgcgdfjldeihkaaQCat
import Derived.Test.YtgcgdfjldeihkaaQClo
namespace Go.Proofs.Ytgcgdfjldeihkaa
open Pv
theorem F_math_bits_Mul64_sound {T : Tab} : SoundFn Try.prog T 33 F_math_bits_Mul64_sig ⟨F_math_bits_Mul64⟩ := by
  have h := fn_sound (T := T) (E := F_math_bits_Mul64_env) (by unfold Env.ok; exact fun p h => by cases h) (A := F_math_bits_Mul64_ann) (f := 33) (fn := Try.f33) (s := F_math_bits_Mul64_sig) Try.func33
  rw [F_math_bits_Mul64_text] at h
  exact h
theorem F_sha_most_sound {T : Tab} : SoundFn Try.prog T 25 F_sha_most_sig ⟨F_sha_most⟩ := by
  have h := fn_sound (T := T) (E := F_sha_most_env) (by unfold Env.ok; exact List.forall_mem_cons.2 ⟨F_math_bits_Mul64_sound, fun p h => by cases h⟩) (A := F_sha_most_ann) (f := 25) (fn := Try.f25) (s := F_sha_most_sig) Try.func25
  rw [F_sha_most_text] at h
  exact h
theorem F_sha_fraction_sound {T : Tab} : SoundFn Try.prog T 16 F_sha_fraction_sig ⟨F_sha_fraction⟩ := by
  have h := fn_sound (T := T) (E := F_sha_fraction_env) (by unfold Env.ok; exact List.forall_mem_cons.2 ⟨F_sha_most_sound, fun p h => by cases h⟩) (A := F_sha_fraction_ann) (f := 16) (fn := Try.f16) (s := F_sha_fraction_sig) Try.func16
  rw [F_sha_fraction_text] at h
  exact h
theorem F_sha_padded_sound {T : Tab} : SoundFn Try.prog T 17 F_sha_padded_sig ⟨F_sha_padded⟩ := by
  have h := fn_sound (T := T) (E := F_sha_padded_env) (by unfold Env.ok; exact List.forall_mem_cons.2 ⟨F_slices_Clone_byte_byte_sound, fun p h => by cases h⟩) (A := F_sha_padded_ann) (f := 17) (fn := Try.f17) (s := F_sha_padded_sig) Try.func17
  rw [F_sha_padded_text] at h
  exact h
theorem F_math_bits_RotateLeft32_sound {T : Tab} : SoundFn Try.prog T 27 F_math_bits_RotateLeft32_sig ⟨F_math_bits_RotateLeft32⟩ := by
  have h := fn_sound (T := T) (E := F_math_bits_RotateLeft32_env) (by unfold Env.ok; exact fun p h => by cases h) (A := F_math_bits_RotateLeft32_ann) (f := 27) (fn := Try.f27) (s := F_math_bits_RotateLeft32_sig) Try.func27
  rw [F_math_bits_RotateLeft32_text] at h
  exact h
theorem F_sha_state_turned_sound {T : Tab} : SoundFn Try.prog T 18 F_sha_state_turned_sig ⟨F_sha_state_turned⟩ := by
  have h := fn_sound (T := T) (E := F_sha_state_turned_env) (by unfold Env.ok; exact List.forall_mem_cons.2 ⟨F_math_bits_RotateLeft32_sound, fun p h => by cases h⟩) (A := F_sha_state_turned_ann) (f := 18) (fn := Try.f18) (s := F_sha_state_turned_sig) Try.func18
  rw [F_sha_state_turned_text] at h
  exact h
theorem F_sha_One_sound {T : Tab} : SoundFn Try.prog T 8 F_sha_One_sig ⟨F_sha_One⟩ := by
  have h := fn_sound (T := T) (E := F_sha_One_env) (by unfold Env.ok; exact List.forall_mem_cons.2 ⟨F_sha_primes_sound, List.forall_mem_cons.2 ⟨F_sha_fraction_sound, List.forall_mem_cons.2 ⟨F_sha_padded_sound, List.forall_mem_cons.2 ⟨F_sha_state_turned_sound, fun p h => by cases h⟩⟩⟩⟩) (A := F_sha_One_ann) (f := 8) (fn := Try.f8) (s := F_sha_One_sig) Try.func8
  rw [F_sha_One_text] at h
  exact h
theorem F_sha_Equal_sound {T : Tab} : SoundFn Try.prog T 9 F_sha_Equal_sig ⟨F_sha_Equal⟩ := by
  have h := fn_sound (T := T) (E := F_sha_Equal_env) (by unfold Env.ok; exact fun p h => by cases h) (A := F_sha_Equal_ann) (f := 9) (fn := Try.f9) (s := F_sha_Equal_sig) Try.func9
  rw [F_sha_Equal_text] at h
  exact h
theorem F_sha_Salted_sound {T : Tab} : SoundFn Try.prog T 13 F_sha_Salted_sig ⟨F_sha_Salted⟩ := by
  have h := fn_sound (T := T) (E := F_sha_Salted_env) (by unfold Env.ok; exact List.forall_mem_cons.2 ⟨F_sha_One_sound, List.forall_mem_cons.2 ⟨F_slices_Concat_byte_byte_sound, fun p h => by cases h⟩⟩) (A := F_sha_Salted_ann) (f := 13) (fn := Try.f13) (s := F_sha_Salted_sig) Try.func13
  rw [F_sha_Salted_text] at h
  exact h
theorem F_wlvref1_primes_sound {T : Tab} : SoundFn Try.prog T 19 F_wlvref1_primes_sig ⟨F_wlvref1_primes⟩ := by
  have h := fn_sound (T := T) (E := F_wlvref1_primes_env) (by unfold Env.ok; exact fun p h => by cases h) (A := F_wlvref1_primes_ann) (f := 19) (fn := Try.f19) (s := F_wlvref1_primes_sig) Try.func19
  rw [F_wlvref1_primes_text] at h
  exact h
theorem F_wlvref1_below_sound {T : Tab} : SoundFn Try.prog T 28 F_wlvref1_below_sig ⟨F_wlvref1_below⟩ := by
  have h := fn_sound (T := T) (E := F_wlvref1_below_env) (by unfold Env.ok; exact fun p h => by cases h) (A := F_wlvref1_below_ann) (f := 28) (fn := Try.f28) (s := F_wlvref1_below_sig) Try.func28
  rw [F_wlvref1_below_text] at h
  exact h
theorem F_wlvref1_times_sound {T : Tab} : SoundFn Try.prog T 35 F_wlvref1_times_sig ⟨F_wlvref1_times⟩ := by
  have h := fn_sound (T := T) (E := F_wlvref1_times_env) (by unfold Env.ok; exact fun p h => by cases h) (A := F_wlvref1_times_ann) (f := 35) (fn := Try.f35) (s := F_wlvref1_times_sig) Try.func35
  rw [F_wlvref1_times_text] at h
  exact h
theorem F_wlvref1_power_sound {T : Tab} : SoundFn Try.prog T 29 F_wlvref1_power_sig ⟨F_wlvref1_power⟩ := by
  have h := fn_sound (T := T) (E := F_wlvref1_power_env) (by unfold Env.ok; exact List.forall_mem_cons.2 ⟨F_wlvref1_times_sound, fun p h => by cases h⟩) (A := F_wlvref1_power_ann) (f := 29) (fn := Try.f29) (s := F_wlvref1_power_sig) Try.func29
  rw [F_wlvref1_power_text] at h
  exact h
theorem F_wlvref1_root_sound {T : Tab} : SoundFn Try.prog T 20 F_wlvref1_root_sig ⟨F_wlvref1_root⟩ := by
  have h := fn_sound (T := T) (E := F_wlvref1_root_env) (by unfold Env.ok; exact List.forall_mem_cons.2 ⟨F_wlvref1_below_sound, List.forall_mem_cons.2 ⟨F_wlvref1_power_sound, fun p h => by cases h⟩⟩) (A := F_wlvref1_root_ann) (f := 20) (fn := Try.f20) (s := F_wlvref1_root_sig) Try.func20
  rw [F_wlvref1_root_text] at h
  exact h
theorem F_wlvref1_turn_sound {T : Tab} : SoundFn Try.prog T 30 F_wlvref1_turn_sig ⟨F_wlvref1_turn⟩ := by
  have h := fn_sound (T := T) (E := F_wlvref1_turn_env) (by unfold Env.ok; exact fun p h => by cases h) (A := F_wlvref1_turn_ann) (f := 30) (fn := Try.f30) (s := F_wlvref1_turn_sig) Try.func30
  rw [F_wlvref1_turn_text] at h
  exact h
theorem F_wlvref1_block_sound {T : Tab} : SoundFn Try.prog T 21 F_wlvref1_block_sig ⟨F_wlvref1_block⟩ := by
  have h := fn_sound (T := T) (E := F_wlvref1_block_env) (by unfold Env.ok; exact List.forall_mem_cons.2 ⟨F_wlvref1_turn_sound, fun p h => by cases h⟩) (A := F_wlvref1_block_ann) (f := 21) (fn := Try.f21) (s := F_wlvref1_block_sig) Try.func21
  rw [F_wlvref1_block_text] at h
  exact h
theorem F_wlvref1_One_sound {T : Tab} : SoundFn Try.prog T 11 F_wlvref1_One_sig ⟨F_wlvref1_One⟩ := by
  have h := fn_sound (T := T) (E := F_wlvref1_One_env) (by unfold Env.ok; exact List.forall_mem_cons.2 ⟨F_wlvref1_primes_sound, List.forall_mem_cons.2 ⟨F_wlvref1_root_sound, List.forall_mem_cons.2 ⟨F_wlvref1_block_sound, fun p h => by cases h⟩⟩⟩) (A := F_wlvref1_One_ann) (f := 11) (fn := Try.f11) (s := F_wlvref1_One_sig) Try.func11
  rw [F_wlvref1_One_text] at h
  exact h
theorem F_wlvref1_Salted_sound {T : Tab} : SoundFn Try.prog T 14 F_wlvref1_Salted_sig ⟨F_wlvref1_Salted⟩ := by
  have h := fn_sound (T := T) (E := F_wlvref1_Salted_env) (by unfold Env.ok; exact List.forall_mem_cons.2 ⟨F_wlvref1_One_sound, fun p h => by cases h⟩) (A := F_wlvref1_Salted_ann) (f := 14) (fn := Try.f14) (s := F_wlvref1_Salted_sig) Try.func14
  rw [F_wlvref1_Salted_text] at h
  exact h
theorem F_wlvref_Bytes_sound {T : Tab} : SoundFn Try.prog T 10 F_wlvref_Bytes_sig ⟨F_wlvref_Bytes⟩ := by
  have h := fn_sound (T := T) (E := F_wlvref_Bytes_env) (by unfold Env.ok; exact fun p h => by cases h) (A := F_wlvref_Bytes_ann) (f := 10) (fn := Try.f10) (s := F_wlvref_Bytes_sig) Try.func10
  rw [F_wlvref_Bytes_text] at h
  exact h
theorem F_wlvlaw3_first_sound {T : Tab} : SoundFn Try.prog T 7 F_wlvlaw3_first_sig ⟨F_wlvlaw3_first⟩ := by
  have h := fn_sound (T := T) (E := F_wlvlaw3_first_env) (by unfold Env.ok; exact List.forall_mem_cons.2 ⟨F_sha_One_sound, fun p h => by cases h⟩) (A := F_wlvlaw3_first_ann) (f := 7) (fn := Try.f7) (s := F_wlvlaw3_first_sig) Try.func7
  rw [F_wlvlaw3_first_text] at h
  exact h
theorem F_wlvref_Copy_sound {T : Tab} : SoundFn Try.prog T 12 F_wlvref_Copy_sig ⟨F_wlvref_Copy⟩ := by
  have h := fn_sound (T := T) (E := F_wlvref_Copy_env) (by unfold Env.ok; exact fun p h => by cases h) (A := F_wlvref_Copy_ann) (f := 12) (fn := Try.f12) (s := F_wlvref_Copy_sig) Try.func12
  rw [F_wlvref_Copy_text] at h
  exact h
theorem F_wlvlaw3_ShaApart_sound {T : Tab} : SoundFn Try.prog T 3 F_wlvlaw3_ShaApart_sig ⟨F_wlvlaw3_ShaApart⟩ := by
  have h := fn_sound (T := T) (E := F_wlvlaw3_ShaApart_env) (by unfold Env.ok; exact List.forall_mem_cons.2 ⟨F_wlvlaw3_first_sound, List.forall_mem_cons.2 ⟨F_sha_One_sound, List.forall_mem_cons.2 ⟨F_sha_Equal_sound, List.forall_mem_cons.2 ⟨F_wlvref_Bytes_sound, List.forall_mem_cons.2 ⟨F_wlvref1_One_sound, List.forall_mem_cons.2 ⟨F_wlvref_Copy_sound, fun p h => by cases h⟩⟩⟩⟩⟩⟩) (A := F_wlvlaw3_ShaApart_ann) (f := 3) (fn := Try.f3) (s := F_wlvlaw3_ShaApart_sig) Try.func3
  rw [F_wlvlaw3_ShaApart_text] at h
  exact h
theorem F_wlvlaw3_ShaBlocks_sound {T : Tab} : SoundFn Try.prog T 4 F_wlvlaw3_ShaBlocks_sig ⟨F_wlvlaw3_ShaBlocks⟩ := by
  have h := fn_sound (T := T) (E := F_wlvlaw3_ShaBlocks_env) (by unfold Env.ok; exact List.forall_mem_cons.2 ⟨F_wlvlaw3_first_sound, List.forall_mem_cons.2 ⟨F_sha_One_sound, List.forall_mem_cons.2 ⟨F_wlvref_Bytes_sound, List.forall_mem_cons.2 ⟨F_wlvref1_One_sound, List.forall_mem_cons.2 ⟨F_sha_Salted_sound, fun p h => by cases h⟩⟩⟩⟩⟩) (A := F_wlvlaw3_ShaBlocks_ann) (f := 4) (fn := Try.f4) (s := F_wlvlaw3_ShaBlocks_sig) Try.func4
  rw [F_wlvlaw3_ShaBlocks_text] at h
  exact h
theorem F_wlvlaw3_ShaTells_sound {T : Tab} : SoundFn Try.prog T 5 F_wlvlaw3_ShaTells_sig ⟨F_wlvlaw3_ShaTells⟩ := by
  have h := fn_sound (T := T) (E := F_wlvlaw3_ShaTells_env) (by unfold Env.ok; exact List.forall_mem_cons.2 ⟨F_wlvlaw3_first_sound, List.forall_mem_cons.2 ⟨F_sha_One_sound, List.forall_mem_cons.2 ⟨F_sha_Equal_sound, List.forall_mem_cons.2 ⟨F_wlvref_Bytes_sound, List.forall_mem_cons.2 ⟨F_wlvref1_One_sound, List.forall_mem_cons.2 ⟨F_sha_Salted_sound, List.forall_mem_cons.2 ⟨F_wlvref1_Salted_sound, fun p h => by cases h⟩⟩⟩⟩⟩⟩⟩) (A := F_wlvlaw3_ShaTells_ann) (f := 5) (fn := Try.f5) (s := F_wlvlaw3_ShaTells_sig) Try.func5
  rw [F_wlvlaw3_ShaTells_text] at h
  exact h
theorem F_wlvlaw3_ShaOwn_sound {T : Tab} : SoundFn Try.prog T 6 F_wlvlaw3_ShaOwn_sig ⟨F_wlvlaw3_ShaOwn⟩ := by
  have h := fn_sound (T := T) (E := F_wlvlaw3_ShaOwn_env) (by unfold Env.ok; exact List.forall_mem_cons.2 ⟨F_wlvlaw3_first_sound, List.forall_mem_cons.2 ⟨F_sha_One_sound, List.forall_mem_cons.2 ⟨F_sha_Equal_sound, List.forall_mem_cons.2 ⟨F_wlvref_Bytes_sound, List.forall_mem_cons.2 ⟨F_wlvref_Copy_sound, List.forall_mem_cons.2 ⟨F_sha_Salted_sound, fun p h => by cases h⟩⟩⟩⟩⟩⟩) (A := F_wlvlaw3_ShaOwn_ann) (f := 6) (fn := Try.f6) (s := F_wlvlaw3_ShaOwn_sig) Try.func6
  rw [F_wlvlaw3_ShaOwn_text] at h
  exact h
end Go.Proofs.Ytgcgdfjldeihkaa
