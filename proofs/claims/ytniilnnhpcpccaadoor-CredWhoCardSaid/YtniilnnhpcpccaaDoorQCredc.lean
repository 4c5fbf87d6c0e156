/- strings.EqualFold by its contract, at ASCII texts. -/
import Derived.Test.YtniilnnhpcpccaaDoorQB64c
import Derived.Lib.Fold
namespace Go.Proofs.YtniilnnhpcpccaaDoor
open Pv Go.RowKit
set_option linter.unusedVariables false
def foldI (x y : Int) : Bool := decide (x = y ∨ (65 ≤ x ∧ x ≤ 90 ∧ y = x + 32) ∨ (65 ≤ y ∧ y ≤ 90 ∧ x = y + 32))
def foldL : List Int → List Int → Bool
  | [], [] => true
  | x :: s, y :: t => foldI x y && foldL s t
  | _, _ => false
def ascL (s : List Int) : Bool := s.all fun x => decide (x < 128)
def F_strings_EqualFold_sig : Sig := ⟨[.v false [.d .str], .v false [.d .str]], [(false, [.d .bool])]⟩
def F_strings_EqualFold (s t : List Int) : Option Bool := cond (ascL s && ascL t && Nat.ble s.length 1000000) (some (foldL s t)) none
theorem ent_ef (l m : List Int) : (entrySt F_strings_EqualFold_sig [⟨.str, l⟩, ⟨.str, m⟩]).map (fun st => (st.φ 0, st.φ 1)) = some (.w false [.d .str l], .w false [.d .str m]) := rfl
theorem exit_ef (y : Bool) : ∃ st', exitSt F_strings_EqualFold_sig y = some st' ∧ st'.φ 0 = .w false [.d .bool y] ∧ (∀ i, st'.φ (i + 1) = .dead) ∧ (∀ k, st'.L k = none) ∧ (∀ k, st'.O k = true → k = .zero) ∧ st'.kn = [] ∧ st'.fr = [] :=
  ⟨_, rfl, rfl, fun _ => rfl, fun k => by match k with | 0 => rfl | 1 => rfl | _ + 2 => rfl, fun k hk => by
    have hk : hasT [.zero] k = true := hk
    simpa using hasT_iff.1 hk, rfl, rfl⟩
theorem fold_one (x y : UInt8) : Lib.foldEq x y = foldI (byteI x) (byteI y) := by
  unfold Lib.foldEq foldI byteI
  congr 1
  apply propext
  omega
theorem fold_lib : ∀ (s t : List UInt8), Lib.equalFold s t = foldL (s.map byteI) (t.map byteI)
  | [], [] => rfl
  | [], _ :: _ => rfl
  | _ :: _, [] => rfl
  | x :: s, y :: t => by
    show (Lib.foldEq x y && Lib.equalFold s t) = (foldI (byteI x) (byteI y) && foldL (s.map byteI) (t.map byteI))
    rw [fold_one, fold_lib s t]
theorem asc_lib {s : ByteArray} (h : ascL (bytesL s) = true) : ∀ (j : Nat) b, s.data.toList[j]? = some b → b.toNat < 128 := fun j b hb => by
  have := List.all_eq_true.1 h (byteI b) (List.mem_map.2 ⟨b, List.mem_of_getElem? hb, rfl⟩)
  have := of_decide_eq_true this
  unfold byteI at this
  omega
theorem F_strings_EqualFold_sound : SoundFn Tryd.prog 8 F_strings_EqualFold_sig ⟨F_strings_EqualFold⟩ := by
  intro F g st xs y tmf w args hent happ hrel hw hn hsz htm
  obtain ⟨(l : List Int), xs', rfl, h2⟩ := appF_inv_c (ts := [.str]) happ
  obtain ⟨(m : List Int), xs'', rfl, h2'⟩ := appF_inv_c (ts := []) h2
  obtain ⟨rfl, h3⟩ := appF_inv_n h2'
  have hφ : Option.map (fun st : PSt => (st.φ 0, st.φ 1)) (some st) = _ := (congrArg _ hent).symm.trans (ent_ef l m)
  have hφ : some (st.φ 0, st.φ 1) = some _ := hφ
  injection hφ with hφ
  obtain ⟨hφ0, hφ1⟩ := Prod.mk.inj hφ
  have h0 := hrel.slots 0
  rw [hφ0, htm 0] at h0
  have h1 := hrel.slots 1
  rw [hφ1, htm 1] at h1
  obtain ⟨s, e0, e1, e2⟩ := rel_str h0
  obtain ⟨t, f0, f1, f2⟩ := rel_str h1
  have ha : args = #[.string s, .string t] := by
    obtain ⟨al⟩ := args
    match al, hsz with
    | [v, u], _ =>
      have h : v = .string s := e0
      have h' : u = .string t := f0
      rw [h, h']
  subst ha
  have h3 : cond (ascL l && ascL m && Nat.ble l.length 1000000) (some (foldL l m)) none = some y := h3
  cases hb : (ascL l && ascL m && Nat.ble l.length 1000000) with
  | false => rw [hb] at h3; cases h3
  | true =>
    rw [hb] at h3
    have hy : foldL l m = y := by injection h3
    simp only [Bool.and_eq_true] at hb
    obtain ⟨⟨b1, b2⟩, b3⟩ := hb
    have b3 := Nat.le_of_ble_eq_true b3
    subst e1; subst f1
    have hlen : (bytesL s).length = s.size := by simp [bytesL]
    obtain ⟨st', x1, x2, x3, x4, x5, x6, x7⟩ := exit_ef y
    refine (Tryd.strings_EqualFold s t w (by omega) (asc_lib b1) (asc_lib b2)).mono fun e w' ⟨he, hw'⟩ => ⟨[.bool y], _, st', by rw [he, fold_lib, ← hy]; rfl, rfl, x1, mrel_out (t := .bool) (x := y) hrel (by rw [hw']; exact Below.refl _ _) rfl x2 x3 x4 x5 x6 x7, fun k hk => ?_⟩
    match k with
    | 0 => cases hk
    | 1 => cases hk
    | k + 2 => cases k <;> cases hk
def F_internal_stringslite_IndexByte_sig : Sig := ⟨[.v false [.d .str], .v false [.d (.int .u8)]], [(false, [.d (.int .i64)])]⟩
def F_internal_stringslite_IndexByte (s : List Int) (c : Int) : Option Int := some (idxI s c)
theorem F_internal_stringslite_IndexByte_sound : SoundFn Tryd.prog 27 F_internal_stringslite_IndexByte_sig ⟨F_internal_stringslite_IndexByte⟩ := by
  intro F g st xs y tmf w args hent happ hrel hw hn hsz htm
  obtain ⟨(l : List Int), xs', rfl, h2⟩ := appF_inv_c (ts := [.int .u8]) happ
  obtain ⟨(c : Int), xs'', rfl, h2'⟩ := appF_inv_c (ts := []) h2
  obtain ⟨rfl, h3⟩ := appF_inv_n h2'
  have hφ : Option.map (fun st : PSt => (st.φ 0, st.φ 1)) (some st) = _ := (congrArg _ hent).symm.trans (ent_ib l c)
  have hφ : some (st.φ 0, st.φ 1) = some _ := hφ
  injection hφ with hφ
  obtain ⟨hφ0, hφ1⟩ := Prod.mk.inj hφ
  have h0 := hrel.slots 0
  rw [hφ0, htm 0] at h0
  have h1 := hrel.slots 1
  rw [hφ1, htm 1] at h1
  obtain ⟨s, e0, e1, e2⟩ := rel_str h0
  obtain ⟨f0, f1⟩ := rel_int h1
  have ha : args = #[.string s, .int .u8 c] := by
    obtain ⟨al⟩ := args
    match al, hsz with
    | [v, u], _ =>
      have h : v = .string s := e0
      have h' : u = .int .u8 c := f0
      rw [h, h']
  subst ha
  have hy : idxI l c = y := by
    have h3 : some (idxI l c) = some y := h3
    injection h3
  have hc : 0 ≤ c ∧ c < 256 := by
    simp [Lit.wf, IntKind.min, IntKind.max, IntKind.signed, IntKind.bits] at f1
    omega
  have hcb : byteI c.toNat.toUInt8 = c := by
    unfold byteI
    rw [Nat.toUInt8_eq, UInt8.toNat_ofNat']
    omega
  have hid : Lib.indexByte s.data.toList c.toNat.toUInt8 = idxI l c := by
    rw [idx_lib, hcb, ← e1]; rfl
  have hin := idxI_in l c
  have hlen : l.length ≤ maxLen := by rw [← e1]; simpa [bytesL] using e2
  have hmx : maxLen = 9223372036854775807 := rfl
  obtain ⟨st', x1, x2, x3, x4, x5, x6, x7⟩ := exit_ib y
  refine (Tryd.stringslite_IndexByte s c w).mono fun e w' ⟨he, hw'⟩ => ⟨[.int .i64 (idxI l c)], _, st', by rw [he, hid]; rfl, rfl, x1, mrel_out (t := .int .i64) (x := y) hrel (by rw [hw']; exact Below.refl _ _) ⟨by rw [hy], ?_⟩ x2 x3 x4 x5 x6 x7, fun k hk => ?_⟩
  · rw [← hy]
    simp [Lit.wf, IntKind.min, IntKind.max, IntKind.signed, IntKind.bits]
    omega
  · match k with
    | 0 => cases hk
    | 1 => cases hk
    | k + 2 => cases k <;> cases hk
end Go.Proofs.YtniilnnhpcpccaaDoor
