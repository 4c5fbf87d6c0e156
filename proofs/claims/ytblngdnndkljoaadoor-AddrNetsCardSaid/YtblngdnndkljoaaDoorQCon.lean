/- strings.Contains at a sought text of one byte. -/
import Derived.Test.YtblngdnndkljoaaDoorQLib
import Derived.Test.YtblngdnndkljoaaDoorShelfC
namespace Go.Proofs.YtblngdnndkljoaaDoor
open Go.RowKit Pv
set_option linter.unusedVariables false
def F_strings_Contains_sig : Sig := ⟨[.v false [.d .str], .v false [.d .str]], [(false, [.d .bool])]⟩
def F_strings_Contains (s t : List Int) : Option Bool := match t with
  | [c] => some (s.contains c)
  | _ => none
theorem idx_contains (c : UInt8) : ∀ l : List UInt8, decide (0 ≤ Lib.indexByte l c) = (l.map byteI).contains (byteI c)
  | [] => rfl
  | b :: l => by
    have ih := idx_contains c l
    have hge := Lib.indexByte_ge l c
    rw [List.map_cons, List.contains_cons, ← ih]
    show decide (0 ≤ if (b == c) = true then (0 : Int) else if (Lib.indexByte l c == -1) = true then -1 else Lib.indexByte l c + 1) = _
    generalize Lib.indexByte l c = z at hge
    by_cases h : b = c
    · subst h; simp
    · have h1 : (byteI c == byteI b) = false := beq_eq_false_iff_ne.2 fun e => h (by
        have e : ((c.toNat : Nat) : Int) = (b.toNat : Nat) := e
        exact (UInt8.toNat_inj.1 (by omega)).symm)
      rw [h1, Bool.false_or, beq_eq_false_iff_ne.2 h]
      by_cases h2 : z = -1
      · subst h2; rfl
      · rw [beq_eq_false_iff_ne.2 h2, decide_eq_decide]
        simp
        omega
theorem F_strings_Contains_sound {T : Tab} : SoundFn Tryd.prog T 99 F_strings_Contains_sig ⟨F_strings_Contains⟩ := by
  refine sound_d rfl fun F g O xs ls y tmf w args hT hls happ hsz hr => ?_
  obtain ⟨(l : List Int), xs', rfl, h2⟩ := appF_inv_c (ts := [.str]) happ
  obtain ⟨(m : List Int), xs'', rfl, h2'⟩ := appF_inv_c (ts := []) h2
  obtain ⟨rfl, h3⟩ := appF_inv_n h2'
  have hls' : some [Leaf.d .str l, Leaf.d .str m] = some ls := hls
  injection hls' with hls'
  subst hls'
  obtain ⟨s, e0, e1, e2⟩ := rel_str (hr 0)
  obtain ⟨t, f0, f1, f2⟩ := rel_str (hr 1)
  rw [args_2 hsz, e0, f0]
  have h3 : F_strings_Contains l m = some y := h3
  obtain ⟨c, rfl⟩ : ∃ c, m = [c] := by
    match m, h3 with
    | [], h3 => cases h3
    | [c], _ => exact ⟨c, rfl⟩
    | _ :: _ :: _, h3 => cases h3
  have hy : l.contains c = y := by
    have h3 : some (l.contains c) = some y := h3
    injection h3
  have htl := bytes_size f1
  obtain ⟨cb, rfl⟩ := Lib.one_byte t htl
  have hcb : byteI cb = c := by
    have : [byteI cb] = [c] := f1
    injection this
  refine (Tryd.strings_Contains_one s cb w).mono ?_
  rintro e w' ⟨rfl, rfl⟩
  have hli : decide (0 ≤ Lib.indexByte s.data.toList cb) = y := by
    rw [idx_contains, ← hy, hcb, ← e1]; rfl
  rw [hli]
  refine ⟨[.bool y], [.d .bool y], rfl, rfl, rfl, Below.refl _ _, fun i hi => ?_⟩
  match i, hi with
  | 0, _ => exact ⟨[.bool y], ⟨_, [], rfl, rfl, rfl⟩, rfl⟩
end Go.Proofs.YtblngdnndkljoaaDoor
