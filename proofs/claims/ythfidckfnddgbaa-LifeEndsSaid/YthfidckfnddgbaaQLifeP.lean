/- Proved: wlvlaw14.LifeEnds returns true for every input that the row lets in, and leaves its argument as it was; no condition beyond the row's own. -/
import Derived.Test.YthfidckfnddgbaaQa
import Derived.Test.YthfidckfnddgbaaQb
import Derived.Test.YthfidckfnddgbaaQLife
import Derived.Test.YthfidckfnddgbaaRows
namespace Go.Proofs.Ythfidckfnddgbaa
open Pv
set_option linter.unusedVariables false
noncomputable def stp (i4 i12 : Int) (b5 b6 b7 a c : Bool) (n : Int) : Option (((Bool) ⊕ (Unit)) ⊕ (Int × Bool × Bool × Bool × Int)) :=
      cond a
      ((F_life_Send i4 i12 c).bind fun x15 =>
        cond (((i12 == 0) || (i12 == 1)) && x15.2)
        (cond ((b6 || b7) || (i4 == 0))
          (some (.inl (.inl false)))
          (cond ((!x15.2) && (x15.1 != i4))
            (some (.inl (.inl false)))
            (cond b6
              (cond b7
                (cond (((i4 == 4) || (i4 == 5)) && (x15.1 != i4))
                  (cond true
                    (some (.inl (.inl false)))
                    (cond (((b5 && true) && (x15.1 != 4)) && (x15.1 != 5))
                      (some (.inl (.inl false)))
                      (some (.inr (x15.1, b5, true, true, n)))))
                  (cond ((i4 != 0) && (x15.1 == 0))
                    (some (.inl (.inl false)))
                    (cond (((b5 && true) && (x15.1 != 4)) && (x15.1 != 5))
                      (some (.inl (.inl false)))
                      (some (.inr (x15.1, b5, true, true, n))))))
                (cond (((i4 == 4) || (i4 == 5)) && (x15.1 != i4))
                  (cond true
                    (some (.inl (.inl false)))
                    (cond (((b5 && true) && (x15.1 != 4)) && (x15.1 != 5))
                      (some (.inl (.inl false)))
                      (some (.inr (x15.1, b5, true, ((i12 == 3) && x15.2), n)))))
                  (cond ((i4 != 0) && (x15.1 == 0))
                    (some (.inl (.inl false)))
                    (cond (((b5 && true) && (x15.1 != 4)) && (x15.1 != 5))
                      (some (.inl (.inl false)))
                      (some (.inr (x15.1, b5, true, ((i12 == 3) && x15.2), n)))))))
              (cond b7
                (cond (((i4 == 4) || (i4 == 5)) && (x15.1 != i4))
                  (cond true
                    (some (.inl (.inl false)))
                    (cond (((b5 && ((((i12 == 0) || (i12 == 1)) && x15.2) && c)) && (x15.1 != 4)) && (x15.1 != 5))
                      (some (.inl (.inl false)))
                      (some (.inr (x15.1, b5, ((((i12 == 0) || (i12 == 1)) && x15.2) && c), true, n)))))
                  (cond ((i4 != 0) && (x15.1 == 0))
                    (some (.inl (.inl false)))
                    (cond (((b5 && ((((i12 == 0) || (i12 == 1)) && x15.2) && c)) && (x15.1 != 4)) && (x15.1 != 5))
                      (some (.inl (.inl false)))
                      (some (.inr (x15.1, b5, ((((i12 == 0) || (i12 == 1)) && x15.2) && c), true, n))))))
                (cond (((i4 == 4) || (i4 == 5)) && (x15.1 != i4))
                  (cond true
                    (some (.inl (.inl false)))
                    (cond (((b5 && ((((i12 == 0) || (i12 == 1)) && x15.2) && c)) && (x15.1 != 4)) && (x15.1 != 5))
                      (some (.inl (.inl false)))
                      (some (.inr (x15.1, b5, ((((i12 == 0) || (i12 == 1)) && x15.2) && c), ((i12 == 3) && x15.2), n)))))
                  (cond ((i4 != 0) && (x15.1 == 0))
                    (some (.inl (.inl false)))
                    (cond (((b5 && ((((i12 == 0) || (i12 == 1)) && x15.2) && c)) && (x15.1 != 4)) && (x15.1 != 5))
                      (some (.inl (.inl false)))
                      (some (.inr (x15.1, b5, ((((i12 == 0) || (i12 == 1)) && x15.2) && c), ((i12 == 3) && x15.2), n))))))))))
        (cond false
          (some (.inl (.inl false)))
          (cond ((!x15.2) && (x15.1 != i4))
            (some (.inl (.inl false)))
            (cond b6
              (cond b7
                (cond (((i4 == 4) || (i4 == 5)) && (x15.1 != i4))
                  (cond true
                    (some (.inl (.inl false)))
                    (cond (((b5 && true) && (x15.1 != 4)) && (x15.1 != 5))
                      (some (.inl (.inl false)))
                      (some (.inr (x15.1, b5, true, true, n)))))
                  (cond ((i4 != 0) && (x15.1 == 0))
                    (some (.inl (.inl false)))
                    (cond (((b5 && true) && (x15.1 != 4)) && (x15.1 != 5))
                      (some (.inl (.inl false)))
                      (some (.inr (x15.1, b5, true, true, n))))))
                (cond (((i4 == 4) || (i4 == 5)) && (x15.1 != i4))
                  (cond true
                    (some (.inl (.inl false)))
                    (cond (((b5 && true) && (x15.1 != 4)) && (x15.1 != 5))
                      (some (.inl (.inl false)))
                      (some (.inr (x15.1, b5, true, ((i12 == 3) && x15.2), n)))))
                  (cond ((i4 != 0) && (x15.1 == 0))
                    (some (.inl (.inl false)))
                    (cond (((b5 && true) && (x15.1 != 4)) && (x15.1 != 5))
                      (some (.inl (.inl false)))
                      (some (.inr (x15.1, b5, true, ((i12 == 3) && x15.2), n)))))))
              (cond b7
                (cond (((i4 == 4) || (i4 == 5)) && (x15.1 != i4))
                  (cond true
                    (some (.inl (.inl false)))
                    (cond (((b5 && ((((i12 == 0) || (i12 == 1)) && x15.2) && c)) && (x15.1 != 4)) && (x15.1 != 5))
                      (some (.inl (.inl false)))
                      (some (.inr (x15.1, b5, ((((i12 == 0) || (i12 == 1)) && x15.2) && c), true, n)))))
                  (cond ((i4 != 0) && (x15.1 == 0))
                    (some (.inl (.inl false)))
                    (cond (((b5 && ((((i12 == 0) || (i12 == 1)) && x15.2) && c)) && (x15.1 != 4)) && (x15.1 != 5))
                      (some (.inl (.inl false)))
                      (some (.inr (x15.1, b5, ((((i12 == 0) || (i12 == 1)) && x15.2) && c), true, n))))))
                (cond (((i4 == 4) || (i4 == 5)) && (x15.1 != i4))
                  (cond true
                    (some (.inl (.inl false)))
                    (cond (((b5 && ((((i12 == 0) || (i12 == 1)) && x15.2) && c)) && (x15.1 != 4)) && (x15.1 != 5))
                      (some (.inl (.inl false)))
                      (some (.inr (x15.1, b5, ((((i12 == 0) || (i12 == 1)) && x15.2) && c), ((i12 == 3) && x15.2), n)))))
                  (cond ((i4 != 0) && (x15.1 == 0))
                    (some (.inl (.inl false)))
                    (cond (((b5 && ((((i12 == 0) || (i12 == 1)) && x15.2) && c)) && (x15.1 != 4)) && (x15.1 != 5))
                      (some (.inl (.inl false)))
                      (some (.inr (x15.1, b5, ((((i12 == 0) || (i12 == 1)) && x15.2) && c), ((i12 == 3) && x15.2), n)))))))))))
      ((F_life_Recv i4 i12 c).bind fun x16 =>
        cond (x16.2.1 && (x16.1 != i4))
        (some (.inl (.inl false)))
        (cond ((i12 == 0) || (i12 == 1))
          (cond (((!x16.2.1) && b5) && (i4 != 5))
            (some (.inl (.inl false)))
            (cond b5
              (cond b7
                (cond (((i4 == 4) || (i4 == 5)) && (x16.1 != i4))
                  (cond true
                    (some (.inl (.inl false)))
                    (cond ((b6 && (x16.1 != 4)) && (x16.1 != 5))
                      (some (.inl (.inl false)))
                      (some (.inr (x16.1, true, b6, true, n)))))
                  (cond ((i4 != 0) && (x16.1 == 0))
                    (some (.inl (.inl false)))
                    (cond ((b6 && (x16.1 != 4)) && (x16.1 != 5))
                      (some (.inl (.inl false)))
                      (some (.inr (x16.1, true, b6, true, n))))))
                (cond (((i4 == 4) || (i4 == 5)) && (x16.1 != i4))
                  (cond true
                    (some (.inl (.inl false)))
                    (cond ((b6 && (x16.1 != 4)) && (x16.1 != 5))
                      (some (.inl (.inl false)))
                      (some (.inr (x16.1, true, b6, ((i12 == 3) && (x16.1 == 4)), n)))))
                  (cond ((i4 != 0) && (x16.1 == 0))
                    (some (.inl (.inl false)))
                    (cond ((b6 && (x16.1 != 4)) && (x16.1 != 5))
                      (some (.inl (.inl false)))
                      (some (.inr (x16.1, true, b6, ((i12 == 3) && (x16.1 == 4)), n)))))))
              (cond ((i12 == 0) || (i12 == 1))
                (cond b7
                  (cond (((i4 == 4) || (i4 == 5)) && (x16.1 != i4))
                    (cond true
                      (some (.inl (.inl false)))
                      (cond ((((((!x16.2.1) && c) && (i4 != 5)) && b6) && (x16.1 != 4)) && (x16.1 != 5))
                        (some (.inl (.inl false)))
                        (some (.inr (x16.1, (((!x16.2.1) && c) && (i4 != 5)), b6, true, n)))))
                    (cond ((i4 != 0) && (x16.1 == 0))
                      (some (.inl (.inl false)))
                      (cond ((((((!x16.2.1) && c) && (i4 != 5)) && b6) && (x16.1 != 4)) && (x16.1 != 5))
                        (some (.inl (.inl false)))
                        (some (.inr (x16.1, (((!x16.2.1) && c) && (i4 != 5)), b6, true, n))))))
                  (cond (((i4 == 4) || (i4 == 5)) && (x16.1 != i4))
                    (cond true
                      (some (.inl (.inl false)))
                      (cond ((((((!x16.2.1) && c) && (i4 != 5)) && b6) && (x16.1 != 4)) && (x16.1 != 5))
                        (some (.inl (.inl false)))
                        (some (.inr (x16.1, (((!x16.2.1) && c) && (i4 != 5)), b6, ((i12 == 3) && (x16.1 == 4)), n)))))
                    (cond ((i4 != 0) && (x16.1 == 0))
                      (some (.inl (.inl false)))
                      (cond ((((((!x16.2.1) && c) && (i4 != 5)) && b6) && (x16.1 != 4)) && (x16.1 != 5))
                        (some (.inl (.inl false)))
                        (some (.inr (x16.1, (((!x16.2.1) && c) && (i4 != 5)), b6, ((i12 == 3) && (x16.1 == 4)), n)))))))
                (cond b7
                  (cond (((i4 == 4) || (i4 == 5)) && (x16.1 != i4))
                    (cond true
                      (some (.inl (.inl false)))
                      (some (.inr (x16.1, false, b6, true, n))))
                    (cond ((i4 != 0) && (x16.1 == 0))
                      (some (.inl (.inl false)))
                      (some (.inr (x16.1, false, b6, true, n)))))
                  (cond (((i4 == 4) || (i4 == 5)) && (x16.1 != i4))
                    (cond true
                      (some (.inl (.inl false)))
                      (some (.inr (x16.1, false, b6, ((i12 == 3) && (x16.1 == 4)), n))))
                    (cond ((i4 != 0) && (x16.1 == 0))
                      (some (.inl (.inl false)))
                      (some (.inr (x16.1, false, b6, ((i12 == 3) && (x16.1 == 4)), n)))))))))
          (cond b5
            (cond b7
              (cond (((i4 == 4) || (i4 == 5)) && (x16.1 != i4))
                (cond true
                  (some (.inl (.inl false)))
                  (cond ((b6 && (x16.1 != 4)) && (x16.1 != 5))
                    (some (.inl (.inl false)))
                    (some (.inr (x16.1, true, b6, true, n)))))
                (cond ((i4 != 0) && (x16.1 == 0))
                  (some (.inl (.inl false)))
                  (cond ((b6 && (x16.1 != 4)) && (x16.1 != 5))
                    (some (.inl (.inl false)))
                    (some (.inr (x16.1, true, b6, true, n))))))
              (cond (((i4 == 4) || (i4 == 5)) && (x16.1 != i4))
                (cond true
                  (some (.inl (.inl false)))
                  (cond ((b6 && (x16.1 != 4)) && (x16.1 != 5))
                    (some (.inl (.inl false)))
                    (some (.inr (x16.1, true, b6, ((i12 == 3) && (x16.1 == 4)), n)))))
                (cond ((i4 != 0) && (x16.1 == 0))
                  (some (.inl (.inl false)))
                  (cond ((b6 && (x16.1 != 4)) && (x16.1 != 5))
                    (some (.inl (.inl false)))
                    (some (.inr (x16.1, true, b6, ((i12 == 3) && (x16.1 == 4)), n)))))))
            (cond ((i12 == 0) || (i12 == 1))
              (cond b7
                (cond (((i4 == 4) || (i4 == 5)) && (x16.1 != i4))
                  (cond true
                    (some (.inl (.inl false)))
                    (cond ((((((!x16.2.1) && c) && (i4 != 5)) && b6) && (x16.1 != 4)) && (x16.1 != 5))
                      (some (.inl (.inl false)))
                      (some (.inr (x16.1, (((!x16.2.1) && c) && (i4 != 5)), b6, true, n)))))
                  (cond ((i4 != 0) && (x16.1 == 0))
                    (some (.inl (.inl false)))
                    (cond ((((((!x16.2.1) && c) && (i4 != 5)) && b6) && (x16.1 != 4)) && (x16.1 != 5))
                      (some (.inl (.inl false)))
                      (some (.inr (x16.1, (((!x16.2.1) && c) && (i4 != 5)), b6, true, n))))))
                (cond (((i4 == 4) || (i4 == 5)) && (x16.1 != i4))
                  (cond true
                    (some (.inl (.inl false)))
                    (cond ((((((!x16.2.1) && c) && (i4 != 5)) && b6) && (x16.1 != 4)) && (x16.1 != 5))
                      (some (.inl (.inl false)))
                      (some (.inr (x16.1, (((!x16.2.1) && c) && (i4 != 5)), b6, ((i12 == 3) && (x16.1 == 4)), n)))))
                  (cond ((i4 != 0) && (x16.1 == 0))
                    (some (.inl (.inl false)))
                    (cond ((((((!x16.2.1) && c) && (i4 != 5)) && b6) && (x16.1 != 4)) && (x16.1 != 5))
                      (some (.inl (.inl false)))
                      (some (.inr (x16.1, (((!x16.2.1) && c) && (i4 != 5)), b6, ((i12 == 3) && (x16.1 == 4)), n)))))))
              (cond b7
                (cond (((i4 == 4) || (i4 == 5)) && (x16.1 != i4))
                  (cond true
                    (some (.inl (.inl false)))
                    (some (.inr (x16.1, false, b6, true, n))))
                  (cond ((i4 != 0) && (x16.1 == 0))
                    (some (.inl (.inl false)))
                    (some (.inr (x16.1, false, b6, true, n)))))
                (cond (((i4 == 4) || (i4 == 5)) && (x16.1 != i4))
                  (cond true
                    (some (.inl (.inl false)))
                    (some (.inr (x16.1, false, b6, ((i12 == 3) && (x16.1 == 4)), n))))
                  (cond ((i4 != 0) && (x16.1 == 0))
                    (some (.inl (.inl false)))
                    (some (.inr (x16.1, false, b6, ((i12 == 3) && (x16.1 == 4)), n))))))))))
theorem L11_eq (l1 : List Int) (s : Int × Bool × Bool × Bool × Int) : F_wlvlaw14_LifeEnds_L11 l1 s = cond (decide (s.2.2.2.2 < (l1.length : Int)))
    ((getI l1 s.2.2.2.2).bind fun i9 => cond (decide (i9 < 0)) ((F_wlvlaw14_first).bind fun b10 => some (.inl (.inl b10)))
      ((getI l1 s.2.2.2.2).bind fun i11 => (getI ([0, 1, 3, 8, 2] : List Int) (Int.tmod i11 5)).bind fun i12 => (getI l1 s.2.2.2.2).bind fun i13 => (getI l1 s.2.2.2.2).bind fun i14 =>
        stp s.1 i12 s.2.1 s.2.2.1 s.2.2.2.1 ((Int.tmod (IntKind.i64.wrap (Int.tdiv i13 5)) 2) == 1) ((Int.tmod (IntKind.i64.wrap (Int.tdiv i14 10)) 2) == 1) (IntKind.i64.wrap (s.2.2.2.2 + 1))))
    (some (.inl (.inr ()))) := rfl
theorem first_true : F_wlvlaw14_first = some true := by kernel_rfl
abbrev Cmb := Int × Int × Bool × Bool × Bool × Bool × Bool
noncomputable def stc (x : Cmb) (n : Int) := stp x.1 x.2.1 x.2.2.1 x.2.2.2.1 x.2.2.2.2.1 x.2.2.2.2.2.1 x.2.2.2.2.2.2 n
def good (s : Int) (t o v : Bool) : Bool := decide (0 ≤ s) && decide (s ≤ 5) && (!t || (s == 2 || s == 4 || s == 5)) && (!o || (s == 3 || s == 4 || s == 5)) && (!v || (s == 4 || s == 5))
noncomputable def fixn (x : Cmb) (n : Int) : Option (((Bool) ⊕ (Unit)) ⊕ (Int × Bool × Bool × Bool × Int)) := match stc x 0 with
  | some (.inr y) => some (.inr (y.1, y.2.1, y.2.2.1, y.2.2.2.1, n))
  | y => y
noncomputable def okc (x : Cmb) : Bool := match stc x 0 with
  | some (.inr y) => good y.1 y.2.1 y.2.2.1 y.2.2.2.1
  | _ => false
def bs : List Bool := [true, false]
def combos : List Cmb := [0, 1, 2, 3, 4, 5].flatMap fun s => [0, 1, 3, 8, 2].flatMap fun k => bs.flatMap fun t => bs.flatMap fun o => bs.flatMap fun v => bs.flatMap fun a => bs.flatMap fun c => [(s, k, t, o, v, a, c)]
def goods : List Cmb := combos.filter fun x => good x.1 x.2.2.1 x.2.2.2.1 x.2.2.2.2.1
theorem mem_bs (b : Bool) : b ∈ bs := by cases b <;> simp [bs]
theorem mem_combos {s k : Int} (hs : s ∈ [(0 : Int), 1, 2, 3, 4, 5]) (hk : k ∈ [(0 : Int), 1, 3, 8, 2]) (t o v a c : Bool) : (s, k, t, o, v, a, c) ∈ combos :=
  List.mem_flatMap.2 ⟨s, hs, List.mem_flatMap.2 ⟨k, hk, List.mem_flatMap.2 ⟨t, mem_bs t, List.mem_flatMap.2 ⟨o, mem_bs o, List.mem_flatMap.2 ⟨v, mem_bs v, List.mem_flatMap.2 ⟨a, mem_bs a, List.mem_flatMap.2 ⟨c, mem_bs c, List.mem_singleton.2 rfl⟩⟩⟩⟩⟩⟩⟩
theorem tab_n (n : Int) : (goods.map fun x => stc x n) = goods.map fun x => fixn x n := by kernel_rfl
theorem tab_ok : goods.all okc = true := by kernel_rfl
theorem stp_good {s k : Int} {t o v : Bool} (a c : Bool) (n : Int) (hg : good s t o v = true) (hk : k ∈ [(0 : Int), 1, 3, 8, 2]) : ∃ s' t' o' v', stp s k t o v a c n = some (.inr (s', t', o', v', n)) ∧ good s' t' o' v' = true := by
  have hs : s ∈ [(0 : Int), 1, 2, 3, 4, 5] := by
    simp only [good, Bool.and_eq_true, decide_eq_true_eq] at hg
    obtain ⟨⟨⟨⟨h1, h2⟩, _⟩, _⟩, _⟩ := hg
    simp
    omega
  have hm : (s, k, t, o, v, a, c) ∈ goods := List.mem_filter.2 ⟨mem_combos hs hk t o v a c, hg⟩
  have h1 : stc (s, k, t, o, v, a, c) n = fixn (s, k, t, o, v, a, c) n := List.map_inj_left.1 (tab_n n) _ hm
  have h2 := List.all_eq_true.1 tab_ok _ hm
  unfold okc at h2
  unfold fixn at h1
  split at h2
  · rename_i y hy
    rw [hy] at h1
    exact ⟨_, _, _, _, h1, h2⟩
  · cases h2
theorem ends (l : List Int) : F_wlvlaw14_LifeEnds l = some true := by
  unfold F_wlvlaw14_LifeEnds
  rw [first_true]
  show cond (decide ((l.length : Int) > 300)) (some true) _ = some true
  by_cases hl : (l.length : Int) > 300
  · rw [decide_eq_true hl]; rfl
  rw [decide_eq_false hl]
  obtain ⟨r, h1, h2⟩ := loop_inv (body := F_wlvlaw14_LifeEnds_L11 l) (I := fun s => good s.1 s.2.1 s.2.2.1 s.2.2.2.1 = true ∧ 0 ≤ s.2.2.2.2 ∧ s.2.2.2.2 ≤ l.length) (m := fun s => (l.length - s.2.2.2.2).toNat) (Q := fun r => r = .inl true ∨ r = .inr ()) (fun s ⟨hg, h0, hn⟩ => by
    rw [L11_eq]
    by_cases hlt : s.2.2.2.2 < (l.length : Int)
    · rw [decide_eq_true hlt]
      obtain ⟨q, hq, _⟩ := getI_of h0 hlt
      rw [hq]
      show (∃ r, cond (decide (q < 0)) _ _ = _ ∧ _) ∨ _
      by_cases hneg : q < 0
      · rw [decide_eq_true hneg, first_true]
        exact .inl ⟨_, rfl, .inl rfl⟩
      rw [decide_eq_false hneg]
      have hk0 : 0 ≤ Int.tmod q 5 := Int.tmod_nonneg _ (by omega)
      have hk1 : Int.tmod q 5 < 5 := Int.tmod_lt_of_pos _ (by omega)
      obtain ⟨k, hk, hk2⟩ := getI_of (l := ([0, 1, 3, 8, 2] : List Int)) hk0 (by simpa using hk1)
      obtain ⟨s', t', o', v', e, hg'⟩ := stp_good ((Int.tmod (IntKind.i64.wrap (Int.tdiv q 5)) 2) == 1) ((Int.tmod (IntKind.i64.wrap (Int.tdiv q 10)) 2) == 1) (IntKind.i64.wrap (s.2.2.2.2 + 1)) hg (List.mem_of_getElem? hk2)
      have hw : IntKind.i64.wrap (s.2.2.2.2 + 1) = s.2.2.2.2 + 1 := wrap_in (by omega) (by omega)
      refine .inr ⟨(s', t', o', v', s.2.2.2.2 + 1), ?_, ⟨hg', by show 0 ≤ s.2.2.2.2 + 1; omega, by show s.2.2.2.2 + 1 ≤ _; omega⟩, by show (l.length - (s.2.2.2.2 + 1)).toNat < _; omega⟩
      show cond (decide (q < 0)) _ _ = _
      rw [decide_eq_false hneg]
      show ((getI ([0, 1, 3, 8, 2] : List Int) (Int.tmod q 5)).bind fun i12 => _) = _
      rw [hk]
      show stp _ _ _ _ _ _ _ _ = _
      rw [e, hw]
    · rw [decide_eq_false hlt]
      exact .inl ⟨_, rfl, .inr rfl⟩) (0, false, false, false, 0) ⟨by decide, by decide, by show (0 : Int) ≤ _; omega⟩
  show joinC _ _ = _
  rcases h2 with rfl | rfl
  · exact join_inl h1
  · rw [join_inr h1]
    show (F_wlvlaw14_first.bind fun b17 => some b17) = _
    rw [first_true]; rfl
end Go.Proofs.Ythfidckfnddgbaa
