/- wlvref1.Encode by its contract. -/
import Derived.Test.YtgcgdfjldeihkaaDoorQB64c
import Derived.Test.YtgcgdfjldeihkaaDoorQRef
namespace Go.Proofs.YtgcgdfjldeihkaaDoor
open Pv Go.RowKit
set_option linter.unusedVariables false
def F_wlvref1_Encode_sig : Sig := ⟨[.v false [.d (.sl (.int .u8))]], [(false, [.d .str])]⟩
def F_wlvref1_Encode (l : List Int) : Option (List Int) := cond (Nat.ble l.length 1000000) (some ((encB l).map byteI)) none
theorem F_wlvref1_Encode_sound : SoundFn Tryd.prog 15 F_wlvref1_Encode_sig ⟨F_wlvref1_Encode⟩ := by
  intro F g st xs y tmf w args hent happ hrel hw hn hsz htm
  obtain ⟨(l : List Int), xs', rfl, h2⟩ := appF_inv_c (ts := []) happ
  obtain ⟨rfl, h3⟩ := appF_inv_n h2
  have hφ : Option.map (fun st : PSt => st.φ 0) (some st) = _ := (congrArg _ hent).symm.trans (ent_enc l)
  have hφ : some (st.φ 0) = some _ := hφ
  injection hφ with hφ
  have h0 := hrel.slots 0
  rw [hφ, htm 0] at h0
  obtain ⟨a, n, c, e0, e1, e2, e3, e4, e5⟩ := rel_bytes h0
  have ha : args = #[.slice a n c] := by
    obtain ⟨al⟩ := args
    match al, hsz with
    | [v], _ =>
      have : v = .slice a n c := e0
      rw [this]
  subst ha
  have h3 : cond (Nat.ble l.length 1000000) (some ((encB l).map byteI)) none = some y := h3
  cases hb : Nat.ble l.length 1000000 with
  | false => rw [hb] at h3; cases h3
  | true =>
    rw [hb] at h3
    have hy : (encB l).map byteI = y := by injection h3
    have hle : l.length ≤ 1000000 := Nat.le_of_ble_eq_true hb
    obtain ⟨st', x1, x2, x3, x4, x5, x6, x7⟩ := exit_enc y
    refine (enc2_walk l e4 a n c e1 (by rw [← e1]; exact hle) e2 w e5).mono fun e w' ⟨he, hbel⟩ => ⟨[.string ⟨(encB l).toArray⟩], _, st', he, rfl, x1, mrel_out (t := .str) (x := y) hrel hbel ⟨_, rfl, ?_, ?_⟩ x2 x3 x4 x5 x6 x7, fun k hk => ?_⟩
    · rw [← hy]
      show (encB l).toArray.toList.map byteI = _
      rw [List.toList_toArray]
    · show (encB l).toArray.size ≤ maxLen
      rw [List.size_toArray, encB_len]
      unfold maxLen
      omega
    · cases k with
      | zero => cases hk
      | succ k => cases k <;> cases hk
end Go.Proofs.YtgcgdfjldeihkaaDoor
