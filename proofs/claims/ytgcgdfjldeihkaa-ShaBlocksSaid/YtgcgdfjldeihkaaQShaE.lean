/- sha.Equal, in plain words. -/
import Derived.Test.YtgcgdfjldeihkaaQShaO
import Derived.Test.YtgcgdfjldeihkaaQOwn
namespace Go.Proofs.Ytgcgdfjldeihkaa
open Pv
set_option linter.unusedVariables false
def BY (l : List Int) : Prop := ∀ x ∈ l, 0 ≤ x ∧ x < 256
theorem by_get {l : List Int} (h : BY l) {k : Nat} (hk : k < l.length) : 0 ≤ l.getD k 0 ∧ l.getD k 0 < 256 := by
  rw [List.getD_eq_getElem?_getD, List.getElem?_eq_getElem hk, Option.getD_some]
  exact h _ (List.getElem_mem hk)
def cb (v : BitVec 8) : Int := IntKind.u8.wrap (v.toNat : Int)
theorem b8_xor (x y : Int) : bits .xor .u8 x y = cb (BitVec.ofInt 8 x ^^^ BitVec.ofInt 8 y) := rfl
theorem b8_or (x y : Int) : bits .or .u8 x y = cb (BitVec.ofInt 8 x ||| BitVec.ofInt 8 y) := rfl
theorem cb_nat (v : BitVec 8) : cb v = (v.toNat : Int) := by
  show ((v.toNat : Nat) : Int) % 256 = _
  have := v.isLt
  omega
theorem cb_zero (v : BitVec 8) : cb v = 0 ↔ v = 0#8 := by
  rw [cb_nat]
  constructor
  · intro h
    apply BitVec.eq_of_toNat_eq
    have : v.toNat = 0 := by omega
    rw [this]; rfl
  · intro h; rw [h]; rfl
theorem cb_in (v : BitVec 8) : 0 ≤ cb v ∧ cb v < 256 := by
  rw [cb_nat]
  have := v.isLt
  omega
theorem xor_in (x y : Int) : 0 ≤ bits .xor .u8 x y ∧ bits .xor .u8 x y < 256 := by rw [b8_xor]; exact cb_in _
theorem or_in (x y : Int) : 0 ≤ bits .or .u8 x y ∧ bits .or .u8 x y < 256 := by rw [b8_or]; exact cb_in _
theorem of_inj {x y : Int} (hx : 0 ≤ x ∧ x < 256) (hy : 0 ≤ y ∧ y < 256) : BitVec.ofInt 8 x = BitVec.ofInt 8 y ↔ x = y := by
  obtain ⟨m, rfl⟩ := Int.eq_ofNat_of_zero_le hx.1
  obtain ⟨n, rfl⟩ := Int.eq_ofNat_of_zero_le hy.1
  rw [BitVec.ofInt_natCast, BitVec.ofInt_natCast]
  constructor
  · intro h
    have := congrArg BitVec.toNat h
    rw [BitVec.toNat_ofNat, BitVec.toNat_ofNat] at this
    omega
  · intro h
    have : m = n := by omega
    rw [this]
theorem xor_zero8 (u v : BitVec 8) : u ^^^ v = 0#8 ↔ u = v := by
  constructor
  · intro h
    have := congrArg (fun z => z ^^^ v) h
    simpa [BitVec.xor_assoc] using this
  · intro h; rw [h]; simp
theorem or_zero8 (u v : BitVec 8) : u ||| v = 0#8 ↔ u = 0#8 ∧ v = 0#8 := by
  constructor
  · intro h
    have key : ∀ i, u.getLsbD i = false ∧ v.getLsbD i = false := fun i => by
      have := congrArg (fun z => z.getLsbD i) h
      simpa [BitVec.getLsbD_or] using this
    exact ⟨BitVec.eq_of_getLsbD_eq fun i _ => by rw [(key i).1]; simp, BitVec.eq_of_getLsbD_eq fun i _ => by rw [(key i).2]; simp⟩
  · rintro ⟨rfl, rfl⟩; rfl
theorem xor_eq0 {x y : Int} (hx : 0 ≤ x ∧ x < 256) (hy : 0 ≤ y ∧ y < 256) : bits .xor .u8 x y = 0 ↔ x = y := by
  rw [b8_xor, cb_zero, xor_zero8, of_inj hx hy]
theorem or_eq0 {x y : Int} (hx : 0 ≤ x ∧ x < 256) (hy : 0 ≤ y ∧ y < 256) : bits .or .u8 x y = 0 ↔ x = 0 ∧ y = 0 := by
  have z : BitVec.ofInt 8 0 = 0#8 := rfl
  rw [b8_or, cb_zero, or_zero8, ← z, of_inj hx ⟨by omega, by omega⟩, of_inj hy ⟨by omega, by omega⟩]
theorem xor_keep {x t : Int} (hx : 0 ≤ x ∧ x < 256) (ht : 0 ≤ t ∧ t < 256) : bits .xor .u8 x t = x ↔ t = 0 := by
  have z : BitVec.ofInt 8 0 = 0#8 := rfl
  have e : BitVec.ofInt 8 (cb (BitVec.ofInt 8 x ^^^ BitVec.ofInt 8 t)) = BitVec.ofInt 8 x ^^^ BitVec.ofInt 8 t := by
    rw [cb_nat, BitVec.ofInt_natCast, BitVec.ofNat_toNat, BitVec.setWidth_eq]
  rw [b8_xor, ← of_inj (cb_in _) hx, e, ← of_inj ht ⟨Int.le_refl 0, by omega⟩, z]
  constructor
  · intro h
    have := congrArg (fun w => BitVec.ofInt 8 x ^^^ w) h
    simpa [← BitVec.xor_assoc] using this
  · intro h; rw [h]; simp
theorem eq_loop {a b : List Int} (ha : BY a) (hb : BY b) (hl : a.length = b.length) (hn : a.length ≤ 1000000000) : ∀ (k i : Nat) (acc : Int), i + k = a.length → 0 ≤ acc ∧ acc < 256 →
    ∃ r, loopC (F_sha_Equal_L7 a b) (acc, (i : Int)) = some (.inr r) ∧ (r = 0 ↔ acc = 0 ∧ a.drop i = b.drop i)
  | 0, i, acc, hi, hacc => by
    refine ⟨acc, loop_inl ?_, ?_⟩
    · unfold F_sha_Equal_L7
      dsimp only
      rw [decide_eq_false (by omega), cond_false]
    · rw [List.drop_of_length_le (by omega), List.drop_of_length_le (by omega)]
      simp
  | k + 1, i, acc, hi, hacc => by
    have ga := by_get ha (show i < a.length by omega)
    have gb := by_get hb (show i < b.length by omega)
    obtain ⟨r, h1, h2⟩ := eq_loop ha hb hl hn k (i + 1) (bits .or .u8 acc (bits .xor .u8 (a.getD i 0) (b.getD i 0))) (by omega) (or_in _ _)
    refine ⟨r, loop_inr ?_ h1, ?_⟩
    · unfold F_sha_Equal_L7
      dsimp only
      rw [decide_eq_true (show (i : Int) < (a.length : Int) by omega), cond_true, gI_D (by omega), Option.bind_some, gI_D (by omega), Option.bind_some, wrap_in (by omega) (by omega)]
      rfl
    · have da : a.drop i = a.getD i 0 :: a.drop (i + 1) := by
        rw [List.drop_eq_getElem_cons (by omega), List.getD_eq_getElem?_getD, List.getElem?_eq_getElem (by omega)]; rfl
      have db : b.drop i = b.getD i 0 :: b.drop (i + 1) := by
        rw [List.drop_eq_getElem_cons (by omega), List.getD_eq_getElem?_getD, List.getElem?_eq_getElem (by omega)]; rfl
      rw [h2, or_eq0 hacc (xor_in _ _), xor_eq0 ga gb, da, db, List.cons.injEq]
      constructor
      · rintro ⟨⟨p, q⟩, r⟩; exact ⟨p, q, r⟩
      · rintro ⟨p, q, r⟩; exact ⟨⟨p, q⟩, r⟩
theorem Equal_len {a b : List Int} (h : a.length ≠ b.length) : F_sha_Equal a b = some false := by
  unfold F_sha_Equal
  rw [show (((a.length : Nat) : Int) != ((b.length : Nat) : Int)) = true by rw [bne_iff_ne]; omega, cond_true]
theorem Equal_eq {a b : List Int} (ha : BY a) (hb : BY b) (hn : a.length ≤ 1000000000) (hm : b.length ≤ 1000000000) : F_sha_Equal a b = some (a == b) := by
  by_cases hl : a.length = b.length
  · obtain ⟨r, h1, h2⟩ := eq_loop ha hb hl hn a.length 0 0 (by omega) ⟨by omega, by omega⟩
    unfold F_sha_Equal
    rw [show (((a.length : Nat) : Int) != ((b.length : Nat) : Int)) = false by rw [bne_eq_false_iff_eq]; omega, cond_false]
    refine (join_inr h1).trans ?_
    unfold F_sha_Equal_J5
    dsimp only
    congr 1
    rw [Bool.eq_iff_iff, beq_iff_eq, beq_iff_eq, h2, List.drop_zero, List.drop_zero]
    simp
  · rw [Equal_len hl]
    congr 1
    symm
    rw [beq_eq_false_iff_ne]
    intro e
    exact hl (by rw [e])
theorem shOut_BY (h : List Int) : BY (shOut h) := fun x hx => by
  unfold shOut at hx
  obtain ⟨l, hl, hx⟩ := List.mem_flatten.1 hx
  obtain ⟨y, _, rfl⟩ := List.mem_map.1 hl
  have w : ∀ z : Int, 0 ≤ IntKind.u8.wrap z ∧ IntKind.u8.wrap z < 256 := fun z => by
    show 0 ≤ z % 256 ∧ z % 256 < 256
    omega
  unfold shFour at hx
  simp only [List.mem_cons, List.not_mem_nil, or_false] at hx
  rcases hx with rfl | rfl | rfl | rfl <;> exact w _
end Go.Proofs.Ytgcgdfjldeihkaa
