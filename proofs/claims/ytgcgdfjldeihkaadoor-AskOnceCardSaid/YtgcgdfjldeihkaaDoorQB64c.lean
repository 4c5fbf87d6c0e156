/- b64.Encode and strings.IndexByte by their contracts. -/
import Derived.Test.YtgcgdfjldeihkaaDoorQc
import Derived.Test.YtgcgdfjldeihkaaDoorQEnc
namespace Go.Proofs.YtgcgdfjldeihkaaDoor
open Pv Go.RowKit
set_option linter.unusedVariables false
def F_b64_Encode_sig : Sig := ⟨[.v false [.d (.sl (.int .u8))]], [(false, [.d .str])]⟩
def F_b64_Encode (l : List Int) : Option (List Int) := cond (Nat.ble l.length 1099511627776) (some ((encB l).map byteI)) none
theorem ent_enc (l : List Int) : (entrySt F_b64_Encode_sig [⟨.sl (.int .u8), l⟩]).map (fun st => st.φ 0) = some (.w false [.d (.sl (.int .u8)) l]) := rfl
theorem exit_enc (y : List Int) : ∃ st', exitSt F_b64_Encode_sig y = some st' ∧ st'.φ 0 = .w false [.d .str y] ∧ (∀ i, st'.φ (i + 1) = .dead) ∧ (∀ k, st'.L k = none) ∧ (∀ k, st'.O k = true → k = .zero) ∧ st'.kn = [] ∧ st'.fr = [] :=
  ⟨_, rfl, rfl, fun _ => rfl, fun k => by match k with | 0 => rfl | _ + 1 => rfl, fun k hk => by
    have hk : hasT [.zero] k = true := hk
    simpa using hasT_iff.1 hk, rfl, rfl⟩
theorem encB_len (l : List Int) : (encB l).length = 4 * ((l.length + 2) / 3) := encK_len l _
theorem F_b64_Encode_sound {T : Tab} : SoundFn Tryd.prog T 14 F_b64_Encode_sig ⟨F_b64_Encode⟩ := by
  intro F g st xs y tmf w args _ hent happ hrel hw hn hsz htm
  obtain ⟨(l : List Int), xs', rfl, h2⟩ := appF_inv_c (ts := []) happ
  obtain ⟨rfl, h3⟩ := appF_inv_n h2
  have hφ : Option.map (fun st : PSt => st.φ 0) (some st) = _ := (congrArg _ hent).symm.trans (ent_enc l)
  have hφ : some (st.φ 0) = some _ := hφ
  injection hφ with hφ
  have h0 := hrel.slots 0
  rw [hφ, htm 0] at h0
  obtain ⟨a, n, c, e0, e1, e2, e3, e4, e5⟩ := rel_bytes h0
  have ha : args = #[.slice a n c] := by
    obtain ⟨al⟩ := args
    match al, hsz with
    | [v], _ =>
      have : v = .slice a n c := e0
      rw [this]
  subst ha
  have h3 : cond (Nat.ble l.length 1099511627776) (some ((encB l).map byteI)) none = some y := h3
  cases hb : Nat.ble l.length 1099511627776 with
  | false => rw [hb] at h3; cases h3
  | true =>
    rw [hb] at h3
    have hy : (encB l).map byteI = y := by injection h3
    have hle : l.length ≤ 1099511627776 := Nat.le_of_ble_eq_true hb
    obtain ⟨st', x1, x2, x3, x4, x5, x6, x7⟩ := exit_enc y
    refine (enc_walk l e4 a n c e1 (by rw [← e1]; exact hle) w e5).mono fun e w' ⟨he, hbel⟩ => ⟨[.string ⟨(encB l).toArray⟩], _, st', he, rfl, x1, mrel_out (t := .str) (x := y) hrel hbel ⟨_, rfl, ?_, ?_⟩ x2 x3 x4 x5 x6 x7, fun k hk => ?_⟩
    · rw [← hy]
      show (encB l).toArray.toList.map byteI = _
      rw [List.toList_toArray]
    · show (encB l).toArray.size ≤ maxLen
      rw [List.size_toArray, encB_len]
      unfold maxLen
      omega
    · cases k with
      | zero => cases hk
      | succ k => cases k <;> cases hk
def idxI : List Int → Int → Int
  | [], _ => -1
  | x :: r, c => cond (x == c) 0 (cond (idxI r c == -1) (-1) (idxI r c + 1))
def F_strings_IndexByte_sig : Sig := ⟨[.v false [.d .str], .v false [.d (.int .u8)]], [(false, [.d (.int .i64)])]⟩
def F_strings_IndexByte (s : List Int) (c : Int) : Option Int := some (idxI s c)
theorem ent_ib (l : List Int) (c : Int) : (entrySt F_strings_IndexByte_sig [⟨.str, l⟩, ⟨.int .u8, c⟩]).map (fun st => (st.φ 0, st.φ 1)) = some (.w false [.d .str l], .w false [.d (.int .u8) c]) := rfl
theorem exit_ib (y : Int) : ∃ st', exitSt F_strings_IndexByte_sig y = some st' ∧ st'.φ 0 = .w false [.d (.int .i64) y] ∧ (∀ i, st'.φ (i + 1) = .dead) ∧ (∀ k, st'.L k = none) ∧ (∀ k, st'.O k = true → k = .zero) ∧ st'.kn = [] ∧ st'.fr = [] :=
  ⟨_, rfl, rfl, fun _ => rfl, fun k => by match k with | 0 => rfl | 1 => rfl | _ + 2 => rfl, fun k hk => by
    have hk : hasT [.zero] k = true := hk
    simpa using hasT_iff.1 hk, rfl, rfl⟩
theorem idx_lib : ∀ (l : List UInt8) (c : UInt8), Lib.indexByte l c = idxI (l.map byteI) (byteI c)
  | [], _ => rfl
  | b :: l, c => by
    have ih := idx_lib l c
    show (if b == c then 0 else if Lib.indexByte l c == -1 then -1 else Lib.indexByte l c + 1) = cond (byteI b == byteI c) 0 (cond (idxI (l.map byteI) (byteI c) == -1) (-1) (idxI (l.map byteI) (byteI c) + 1))
    rw [ih]
    have e : (byteI b == byteI c) = (b == c) := by
      by_cases h : b = c
      · subst h; simp
      · have : byteI b ≠ byteI c := fun e => h (UInt8.toNat_inj.1 (by unfold byteI at e; exact Int.ofNat.inj e))
        rw [beq_eq_false_iff_ne.2 this, beq_eq_false_iff_ne.2 h]
    rw [e]
    cases b == c <;> cases idxI (l.map byteI) (byteI c) == -1 <;> rfl
theorem idxI_in : ∀ (l : List Int) (c : Int), -1 ≤ idxI l c ∧ idxI l c < l.length
  | [], c => ⟨Int.le_refl _, by show (-1 : Int) < 0; decide⟩
  | x :: l, c => by
    obtain ⟨h1, h2⟩ := idxI_in l c
    unfold idxI
    cases x == c
    · cases h : idxI l c == -1
      · show -1 ≤ idxI l c + 1 ∧ idxI l c + 1 < _
        rw [List.length_cons]; omega
      · show -1 ≤ (-1 : Int) ∧ (-1 : Int) < _
        rw [List.length_cons]; omega
    · show -1 ≤ (0 : Int) ∧ (0 : Int) < _
      rw [List.length_cons]; omega
theorem F_strings_IndexByte_sound {T : Tab} : SoundFn Tryd.prog T 25 F_strings_IndexByte_sig ⟨F_strings_IndexByte⟩ := by
  intro F g st xs y tmf w args _ hent happ hrel hw hn hsz htm
  obtain ⟨(l : List Int), xs', rfl, h2⟩ := appF_inv_c (ts := [.int .u8]) happ
  obtain ⟨(c : Int), xs'', rfl, h2'⟩ := appF_inv_c (ts := []) h2
  obtain ⟨rfl, h3⟩ := appF_inv_n h2'
  have hφ : Option.map (fun st : PSt => (st.φ 0, st.φ 1)) (some st) = _ := (congrArg _ hent).symm.trans (ent_ib l c)
  have hφ : some (st.φ 0, st.φ 1) = some _ := hφ
  injection hφ with hφ
  obtain ⟨hφ0, hφ1⟩ := Prod.mk.inj hφ
  have h0 := hrel.slots 0
  rw [hφ0, htm 0] at h0
  have h1 := hrel.slots 1
  rw [hφ1, htm 1] at h1
  obtain ⟨s, e0, e1, e2⟩ := rel_str h0
  obtain ⟨f0, f1⟩ := rel_int h1
  have ha : args = #[.string s, .int .u8 c] := by
    obtain ⟨al⟩ := args
    match al, hsz with
    | [v, u], _ =>
      have h : v = .string s := e0
      have h' : u = .int .u8 c := f0
      rw [h, h']
  subst ha
  have hy : idxI l c = y := by
    have h3 : some (idxI l c) = some y := h3
    injection h3
  have hc : 0 ≤ c ∧ c < 256 := by
    simp [Lit.wf, IntKind.min, IntKind.max, IntKind.signed, IntKind.bits] at f1
    omega
  have hcb : byteI c.toNat.toUInt8 = c := by
    unfold byteI
    rw [Nat.toUInt8_eq, UInt8.toNat_ofNat']
    omega
  have hid : Lib.indexByte s.data.toList c.toNat.toUInt8 = idxI l c := by
    rw [idx_lib, hcb, ← e1]; rfl
  have hin := idxI_in l c
  have hlen : l.length ≤ maxLen := by rw [← e1]; simpa [bytesL] using e2
  have hmx : maxLen = 9223372036854775807 := rfl
  obtain ⟨st', x1, x2, x3, x4, x5, x6, x7⟩ := exit_ib y
  refine (Tryd.strings_IndexByte s c w).mono fun e w' ⟨he, hw'⟩ => ⟨[.int .i64 (idxI l c)], _, st', by rw [he, hid]; rfl, rfl, x1, mrel_out (t := .int .i64) (x := y) hrel (by rw [hw']; exact Below.refl _ _) ⟨by rw [hy], ?_⟩ x2 x3 x4 x5 x6 x7, fun k hk => ?_⟩
  · rw [← hy]
    simp [Lit.wf, IntKind.min, IntKind.max, IntKind.signed, IntKind.bits]
    omega
  · match k with
    | 0 => cases hk
    | 1 => cases hk
    | k + 2 => cases k <;> cases hk
end Go.Proofs.YtgcgdfjldeihkaaDoor
