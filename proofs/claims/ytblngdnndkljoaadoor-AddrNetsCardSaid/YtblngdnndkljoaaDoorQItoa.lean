/- strconv.Itoa by its contract. -/
import Derived.Test.YtblngdnndkljoaaDoorQt
import Derived.Test.YtblngdnndkljoaaDoorShelfI
import Derived.Lib.ItoaLen
namespace Go.Proofs.YtblngdnndkljoaaDoor
open Go.RowKit Pv
set_option linter.unusedVariables false
def itoaI (n : Int) : List Int := (Lib.itoa n).map byteI
def tab_pow10 : Nat × Array Value := tabOf 8 .u64 Lib.pow10Tab
def F_strconv_Itoa_sig : Sig := ⟨[.v false [.d (.int .i64)]], [(false, [.d .str])]⟩
def F_strconv_Itoa (n : Int) : Option (List Int) := some (itoaI n)
theorem wf_i64 {n : Int} (h : (Lit.int .i64 n).wf = true) : -9223372036854775808 ≤ n ∧ n ≤ 9223372036854775807 := by
  simp [Lit.wf, IntKind.min, IntKind.max, IntKind.signed, IntKind.bits] at h
  omega
theorem F_strconv_Itoa_sound {T : Tab} (h_pow10 : tab_pow10 ∈ T) : SoundFn Tryd.prog T 66 F_strconv_Itoa_sig ⟨F_strconv_Itoa⟩ := by
  refine sound_d rfl fun F g O xs ls y tmf w args hT hls happ hsz hr => ?_
  obtain ⟨(n : Int), xs', rfl, h2⟩ := appF_inv_c (ts := []) happ
  obtain ⟨rfl, h3⟩ := appF_inv_n h2
  have hls' : some [Leaf.d (.int .i64) n] = some ls := hls
  injection hls' with hls'
  subst hls'
  obtain ⟨e0, e1⟩ := rel_int (hr 0)
  have ha : args = #[.int .i64 n] := by
    obtain ⟨al⟩ := args
    match al, hsz with
    | [v], _ =>
      have h : v = .int .i64 n := e0
      rw [h]
  subst ha
  have h3 : itoaI n = y := by
    have h3 : some (itoaI n) = some y := h3
    injection h3
  have hn := wf_i64 e1
  refine (Tryd.strconv_Itoa n hn.1 hn.2 w (tabIs_now hT h_pow10 (by kernel_rfl))).mono ?_
  rintro e w' ⟨he, k, os, rfl⟩
  refine ⟨[.string ⟨(Lib.itoa n).toArray⟩], [.d .str y], he, rfl, rfl, below_grow _ _ _, fun i hi => ?_⟩
  match i, hi with
  | 0, _ =>
    refine ⟨[.string ⟨(Lib.itoa n).toArray⟩], ⟨[.string ⟨(Lib.itoa n).toArray⟩], [], rfl, ⟨_, rfl, ?_, ?_⟩, rfl⟩, rfl⟩
    · rw [← h3]
      show (Lib.itoa n).toArray.toList.map byteI = _
      rw [List.toList_toArray]
      rfl
    · show (Lib.itoa n).toArray.size ≤ maxLen
      have := Lib.itoa_length_le n hn.1 hn.2
      rw [List.size_toArray]
      have hm : maxLen = 9223372036854775807 := rfl
      omega
end Go.Proofs.YtblngdnndkljoaaDoor
