/- internal/stringslite.Index at a sought text of one byte: by hand. -/
import Derived.Test.YtniilnnhpcpccaaDoorQCredc
import Derived.WalkKit
import Derived.BigCall
namespace Go.Proofs.YtniilnnhpcpccaaDoor
open Pv Go.RowKit
set_option linter.unusedVariables false
set_option maxHeartbeats 2000000 in
set_option maxRecDepth 100000 in
theorem index_one (s : ByteArray) (c : UInt8) (w : World) :
    Calls Tryd.prog 28 #[.string s, .string ⟨#[c]⟩] w fun e w' => e = .returned (.int .i64 (Lib.indexByte s.data.toList c)) ∧ Below w.heap.size w w' := by
  have hsz : (⟨#[c]⟩ : ByteArray).size = 1 := rfl
  go_enter Tryd.func28, Tryd.ntmps28
  go_wp2_with (go_at_call 27; refine (Tryd.stringslite_IndexByte s _ _).mono ?_)
  · rename_i hq
    go_ret
    have e : s.data.toList = [c] := by
      rw [ByteArray.toList_eq] at hq
      exact (beq_iff_eq.1 hq).symm
    have e2 : Lib.indexByte s.data.toList c = 0 := by
      rw [e]
      show (if c == c then (0 : Int) else _) = 0
      rw [beq_self_eq_true]; rfl
    exact ⟨by rw [e2]; rfl, Below.refl _ _⟩
  · rintro e w' ⟨rfl, rfl⟩
    go_wp2
    go_ret
    exact ⟨rfl, Below.refl _ _⟩
def F_internal_stringslite_Index_sig : Sig := ⟨[.v false [.d .str], .v false [.d .str]], [(false, [.d (.int .i64)])]⟩
def F_internal_stringslite_Index (s t : List Int) : Option Int := match t with
  | [c] => some (idxI s c)
  | _ => none
theorem ent_ix (l m : List Int) : (entrySt F_internal_stringslite_Index_sig [⟨.str, l⟩, ⟨.str, m⟩]).map (fun st => (st.φ 0, st.φ 1)) = some (.w false [.d .str l], .w false [.d .str m]) := rfl
theorem exit_ix (y : Int) : ∃ st', exitSt F_internal_stringslite_Index_sig y = some st' ∧ st'.φ 0 = .w false [.d (.int .i64) y] ∧ (∀ i, st'.φ (i + 1) = .dead) ∧ (∀ k, st'.L k = none) ∧ (∀ k, st'.O k = true → k = .zero) ∧ st'.kn = [] ∧ st'.fr = [] :=
  ⟨_, rfl, rfl, fun _ => rfl, fun k => by match k with | 0 => rfl | 1 => rfl | _ + 2 => rfl, fun k hk => by
    have hk : hasT [.zero] k = true := hk
    simpa using hasT_iff.1 hk, rfl, rfl⟩
theorem F_internal_stringslite_Index_sound : SoundFn Tryd.prog 28 F_internal_stringslite_Index_sig ⟨F_internal_stringslite_Index⟩ := by
  intro F g st xs y tmf w args hent happ hrel hw hn hsz htm
  obtain ⟨(l : List Int), xs', rfl, h2⟩ := appF_inv_c (ts := [.str]) happ
  obtain ⟨(m : List Int), xs'', rfl, h2'⟩ := appF_inv_c (ts := []) h2
  obtain ⟨rfl, h3⟩ := appF_inv_n h2'
  have hφ : Option.map (fun st : PSt => (st.φ 0, st.φ 1)) (some st) = _ := (congrArg _ hent).symm.trans (ent_ix l m)
  have hφ : some (st.φ 0, st.φ 1) = some _ := hφ
  injection hφ with hφ
  obtain ⟨hφ0, hφ1⟩ := Prod.mk.inj hφ
  have h0 := hrel.slots 0
  rw [hφ0, htm 0] at h0
  have h1 := hrel.slots 1
  rw [hφ1, htm 1] at h1
  obtain ⟨s, e0, e1, e2⟩ := rel_str h0
  obtain ⟨t, f0, f1, f2⟩ := rel_str h1
  have ha : args = #[.string s, .string t] := by
    obtain ⟨al⟩ := args
    match al, hsz with
    | [v, u], _ =>
      have h : v = .string s := e0
      have h' : u = .string t := f0
      rw [h, h']
  subst ha
  subst e1; subst f1
  have h3 : F_internal_stringslite_Index (bytesL s) (bytesL t) = some y := h3
  obtain ⟨c, hc⟩ : ∃ c, t = ⟨#[c]⟩ := by
    obtain ⟨⟨tl⟩⟩ := t
    match tl with
    | [] => cases h3
    | [c] => exact ⟨c, rfl⟩
    | a :: b :: r => cases h3
  subst hc
  have hy : idxI (bytesL s) (byteI c) = y := by
    have h3 : some (idxI (bytesL s) (byteI c)) = some y := h3
    injection h3
  have hin := idxI_in (bytesL s) (byteI c)
  have hlen : (bytesL s).length ≤ maxLen := by simpa [bytesL] using e2
  have hmx : maxLen = 9223372036854775807 := rfl
  obtain ⟨st', x1, x2, x3, x4, x5, x6, x7⟩ := exit_ix y
  refine (index_one s c w).mono fun e w' ⟨he, hb⟩ => ⟨[.int .i64 (idxI (bytesL s) (byteI c))], _, st', by rw [he, idx_lib]; rfl, rfl, x1, mrel_out (t := .int .i64) (x := y) hrel hb ⟨by rw [hy], ?_⟩ x2 x3 x4 x5 x6 x7, fun k hk => ?_⟩
  · rw [← hy]
    simp [Lit.wf, IntKind.min, IntKind.max, IntKind.signed, IntKind.bits]
    omega
  · match k with
    | 0 => cases hk
    | 1 => cases hk
    | k + 2 => cases k <;> cases hk
end Go.Proofs.YtniilnnhpcpccaaDoor
