/- Settings: each moves its own number. -/
import Derived.Test.YtnlekdpnjphmfaaSets
import Derived.Test.YtnlekdpnjphmfaaVca
namespace Go.Proofs.Ytnlekdpnjphmfaa
open Vc
set_option linter.unusedVariables false
theorem lit1 (x y : Int) (w : World) : (Instr.buildSlice 33 1 #[(0, .agg #[.int .i64 x, .int .i64 y])]).run Try.prog w = .ok (.slice (some ⟨w.heap.size, 0, none⟩) 1 1) (w.alloc (.cells #[.int .i64 x, .int .i64 y] 41)) := by kernel_rfl
theorem rows1 (v : World) (x y : Int) : RowsAt (v.alloc (.cells #[.int .i64 x, .int .i64 y] 41)) (some ⟨v.heap.size, 0, none⟩) 2 ([(x, y)].map enc2) := by
  refine Cells.rows (by intro r hr; simp [enc2] at hr; subst hr; rfl) (by decide) fun j u hj => ⟨_, rfl, ?_⟩
  have hc : ∀ i : Nat, (v.alloc (.cells #[.int .i64 x, .int .i64 y] 41)).cell? ⟨v.heap.size, i, none⟩ = ([Value.int .i64 x, .int .i64 y] : List Value)[i]? := fun i => cell_at (fr := (0, 0)) (heap_alloc_new _ _) i
  rw [add_at, Nat.zero_add, hc]
  simpa [enc2] using hj
theorem c_SetsEach (i1 i2 : Int) (v : World) : CallsV Try.prog 6 #[.int .i64 i1, .int .i64 i2] v fun r v' => r = .bool true ∧ Ext v v' := by
  refine fn_sound (E := E) Try.func6 (Eq.mpr (t_wlvlaw13_SetsEach i1 i2 v _) ?_)
  refine (c_first13 _).mono ?_
  rintro r v1 ⟨rfl, h1⟩
  refine ⟨true, rfl, ?_⟩
  refine bcase_of (fun h => by cases h) (fun _ => ?_)
  refine (c_sets_First _).mono ?_
  rintro r v2 ⟨rfl, h2⟩
  refine ⟨4096, 1, 2147483647, 65535, 16384, 2147483647, rfl, ?_⟩
  refine runs_literal (lit1 i1 i2) ?_
  refine ⟨_, _, _, rfl, ?_⟩
  have e2 : Ext v (v2.alloc (.cells #[.int .i64 i1, .int .i64 i2] 41)) := (h1.trans h2).ext.alloc _
  refine (c_Apply s0 [(i1, i2)] _ 1 1 _ rfl (by omega) (rows1 v2 i1 i2)).mono ?_
  rintro r v4 ⟨rfl, h4⟩
  rcases hq : runA s0 [(i1, i2)] with ⟨⟨q1, q2, q3, q4, q5, q6⟩, p1, p2, p3⟩
  refine ⟨q1, q2, q3, q4, q5, q6, p1, p2, p3, rfl, ?_⟩
  refine (c_sets_First _).mono ?_
  rintro r v5 ⟨rfl, h5⟩
  refine ⟨4096, 1, 2147483647, 65535, 16384, 2147483647, rfl, ?_⟩
  have e5 : Ext v (hv v5) := e2.trans ((h4.hv.hv.trans h5).hv).ext
  have hw : ∀ k : Int, wrongA (i1, i2) = k → (k != 0) = true → (zeroS, true, true, k) = ((q1, q2, q3, q4, q5, q6), p1, p2, p3) := fun k hk hn => by
    rw [← hq]; simp only [runA, hk, hn, cond_true]
  have ho : wrongA (i1, i2) = 0 → (stepA s0 (i1, i2), false, false, (0 : Int)) = ((q1, q2, q3, q4, q5, q6), p1, p2, p3) := fun hk => by
    rw [← hq]; simp [runA, hk]
  have fin : ∀ f : Bool → Bool, f true = true → CallsV Try.prog 20 #[] (hv v5) fun r v6 => ∃ b : Bool, r = .bool b ∧ (Value.bool (f b) = .bool true ∧ Ext v v6) := fun f hf => by
    refine (c_first13 _).mono ?_
    rintro r v6 ⟨rfl, h6⟩
    exact ⟨true, rfl, by rw [hf], e5.trans h6.ext⟩
  have zz : ∀ {X Y : Prop}, Y → bcase (decide ((0 : Int) > 0)) X Y := fun h => h
  refine bcase_of (fun g1 => ?_) (fun g1 => ?_)
  · obtain rfl : i1 = 1 := by simpa using g1
    have e := ho (by simp [wrongA, F_sets_wrong])
    simp [stepA, s0, cap31] at e
    obtain ⟨⟨rfl, rfl, rfl, rfl, rfl, rfl⟩, rfl, rfl, rfl⟩ := e
    exact zz (fin _ (by simp))
  refine bcase_of (fun g2 => ?_) (fun g2 => ?_)
  · obtain rfl : i1 = 2 := by simpa using g2
    refine bcase_of (fun hb => ?_) (fun hb => ?_)
    · have e := hw 1 (by simp only [wrongA, F_sets_wrong]; rw [Bool.and_eq_true] at hb; simp only [hb.1, hb.2]; rfl) rfl
      simp [zeroS] at e
      obtain ⟨⟨rfl, rfl, rfl, rfl, rfl, rfl⟩, rfl, rfl, rfl⟩ := e
      exact fin _ (by simp)
    · have e := ho (by
        simp only [wrongA, F_sets_wrong]
        have : ((((2 : Int) == 2) && (i2 != 0)) && (i2 != 1)) = false := by rw [← hb]; simp
        simp only [this]; rfl)
      simp [stepA, s0] at e
      obtain ⟨⟨rfl, rfl, rfl, rfl, rfl, rfl⟩, rfl, rfl, rfl⟩ := e
      exact zz (fin _ (by simp))
  refine bcase_of (fun g3 => ?_) (fun g3 => ?_)
  · obtain rfl : i1 = 3 := by simpa using g3
    have e := ho (by simp [wrongA, F_sets_wrong])
    simp [stepA, s0, cap31] at e
    obtain ⟨⟨rfl, rfl, rfl, rfl, rfl, rfl⟩, rfl, rfl, rfl⟩ := e
    exact zz (fin _ (by simp))
  refine bcase_of (fun g4 => ?_) (fun g4 => ?_)
  · obtain rfl : i1 = 4 := by simpa using g4
    refine bcase_of (fun hb => ?_) (fun hb => ?_)
    · have e := hw 3 (by simp only [wrongA, F_sets_wrong, hb]; rfl) rfl
      simp [zeroS] at e
      obtain ⟨⟨rfl, rfl, rfl, rfl, rfl, rfl⟩, rfl, rfl, rfl⟩ := e
      exact fin _ (by simp)
    · have e := ho (by simp only [wrongA, F_sets_wrong, hb]; rfl)
      simp [stepA, s0] at e
      obtain ⟨⟨rfl, rfl, rfl, rfl, rfl, rfl⟩, rfl, rfl, rfl⟩ := e
      exact zz (fin _ (by simp))
  refine bcase_of (fun g5 => ?_) (fun g5 => ?_)
  · obtain rfl : i1 = 5 := by simpa using g5
    have hd : decide (i2 > 16777215) = decide (i2 ≥ 16777216) := by rw [decide_eq_decide]; omega
    refine bcase_of (fun hb => ?_) (fun hb => ?_)
    · have e := hw 1 (by simp only [wrongA, F_sets_wrong, hd, hb]; rfl) rfl
      simp [zeroS] at e
      obtain ⟨⟨rfl, rfl, rfl, rfl, rfl, rfl⟩, rfl, rfl, rfl⟩ := e
      exact fin _ (by simp)
    · have e := ho (by simp only [wrongA, F_sets_wrong, hd, hb]; rfl)
      simp [stepA, s0] at e
      obtain ⟨⟨rfl, rfl, rfl, rfl, rfl, rfl⟩, rfl, rfl, rfl⟩ := e
      exact zz (fin _ (by simp))
  have hz : wrongA (i1, i2) = 0 := by simp only [wrongA, F_sets_wrong, g2, g4, g5]; rfl
  refine bcase_of (fun g6 => ?_) (fun g6 => ?_)
  · have e := ho hz
    simp [stepA, s0, cap31, g1, g2, g3, g4, g5, g6] at e
    obtain ⟨⟨rfl, rfl, rfl, rfl, rfl, rfl⟩, rfl, rfl, rfl⟩ := e
    exact zz (fin _ (by simp))
  · have e := ho hz
    simp [stepA, s0, g1, g2, g3, g4, g5, g6] at e
    obtain ⟨⟨rfl, rfl, rfl, rfl, rfl, rfl⟩, rfl, rfl, rfl⟩ := e
    exact zz (fin _ (by simp))
end Go.Proofs.Ytnlekdpnjphmfaa
