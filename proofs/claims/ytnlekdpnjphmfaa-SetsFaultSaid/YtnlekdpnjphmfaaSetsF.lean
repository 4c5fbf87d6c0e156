/- Settings: one that may not be spoils the list. -/
import Derived.Test.YtnlekdpnjphmfaaSetsL
import Derived.Test.YtnlekdpnjphmfaaGSetsF
namespace Go.Proofs.Ytnlekdpnjphmfaa
open Vc
set_option linter.unusedVariables false
theorem lit0 (w : World) : (Instr.buildSlice 33 0 #[]).run Try.prog w = .ok (.slice (some ⟨w.heap.size, 0, none⟩) 0 0) (w.alloc (.cells #[] 41)) := by kernel_rfl
theorem own0 (base : Nat) (w : World) (h : base ≤ w.heap.size) : (w.alloc (.cells #[] 41)).ownsRow base 41 2 (.slice (some ⟨w.heap.size, 0, none⟩) 0 0) 0 (([] : List (Int × Int)).map enc2).flatten :=
  World.ownsRow_lit w #[] 0 h (by unfold maxLen; omega) rfl
theorem rows_grown {w w' : World} {a : Option Addr} {k : Nat} {l : List (List Value)} {row : Option Nat} (h : RowsAt w a k l) (hg : w.grownBy w' row) (hne : ∀ ad : Addr, a = some ad → some ad.block ≠ row) : RowsAt w' a k l := fun i cs hi => by
  obtain ⟨ad, ha, hc⟩ := h i cs hi
  refine ⟨ad, ha, fun j x hj => hg.cell (hc j x hj) ?_⟩
  have : (ad.add (i * k + j)).block = ad.block := by unfold Addr.add; split <;> rfl
  rw [this]
  exact hne ad ha
theorem c_SetsFault (l : List (Int × Int)) (a : Option Addr) (n c : Nat) (cut : Int) (v : World) (hl : l.length = n) (hnc : n ≤ c) (hr : RowsAt v a 2 (l.map enc2)) :
    CallsV Try.prog 7 #[.slice a n c, .int .i64 cut] v fun r v' => r = .bool true ∧ Ext v v' := by
  refine fn_sound (E := E) Try.func7 (Eq.mpr (t_wlvlaw13_SetsFault a n c cut v _) ?_)
  refine (c_first13 _).mono ?_
  rintro r v1 ⟨rfl, h1⟩
  refine ⟨true, rfl, ?_⟩
  refine bcase_of (fun h => by cases h) (fun _ => ?_)
  refine bcase_of (fun h => ?_) (fun h => ?_)
  · refine (c_first13 _).mono ?_
    rintro r v2 ⟨rfl, h2⟩
    exact ⟨true, rfl, rfl, (h1.trans h2).ext⟩
  have hb : n ≤ 300 ∧ 0 ≤ cut ∧ cut ≤ n := by simp at h; omega
  obtain ⟨hn, hc0, hc1⟩ := hb
  obtain ⟨t, rfl⟩ : ∃ t : Nat, cut = t := ⟨cut.toNat, by omega⟩
  refine (c_sets_First _).mono ?_
  rintro r v3 ⟨rfl, h3⟩
  refine ⟨4096, 1, 2147483647, 65535, 16384, 2147483647, rfl, ?_⟩
  refine (c_Apply s0 l a n c v3 hl (by omega) (hr.ext (h1.trans h3).ext)).mono ?_
  rintro r v4 ⟨rfl, h4⟩
  rcases hq : runA s0 l with ⟨⟨q1, q2, q3, q4, q5, q6⟩, p1, p2, p3⟩
  refine ⟨q1, q2, q3, q4, q5, q6, p1, p2, p3, rfl, ?_⟩
  have e4 := ((h1.trans h3).trans h4).hv.hv.hv
  refine ⟨fun s m c' w => Ext v w ∧ w.ownsRow v.heap.size 41 2 (.slice s m c') m (((([] ++ l.take t) ++ [(2, 7)]) ++ l.drop t).map enc2).flatten, ⟨⟨by omega, by omega, by omega⟩, ⟨by omega, by omega, by omega⟩, fun v6 hv6 => ?_⟩, ?_⟩
  · have e6 : Pad v v6 := e4.trans hv6
    refine ⟨?_, ?_⟩
    · skip
      refine runs_literal lit0 ?_
      refine ⟨_, _, _, rfl, ?_⟩
      have e1 := (e6.ext).alloc (.cells #[] 41)
      have o2 := own0 v.heap.size _ (e6.ext).size
      refine ⟨?_, ?_⟩
      · skip
        refine append33 (ys := []) (news := l.take t) o2 (by simp; omega) (rows_take (hr.ext e1) t c) (by simp; omega) e1.size fun r6 w7 o3 g4 => ?_
        obtain ⟨a8, c9, rfl⟩ := own_slice o3
        have e5 := grown_ext g4 e1 fun q hq => (o2.lt q hq).1
        refine ⟨_, _, _, rfl, ?_⟩
        refine runs_literal (lit1 2 7) ?_
        refine ⟨_, _, _, rfl, ?_⟩
        have e10 := (e5).alloc (.cells #[.int .i64 2, .int .i64 7] 41)
        have rw11 := rows1 (w7) 2 7
        have o12 := (o3).alloc (.cells #[.int .i64 2, .int .i64 7] 41)
        refine append33 (ys := [] ++ l.take t) (news := [(2, 7)]) o12 rfl (rw11) (by simp; omega) e10.size fun r16 w17 o13 g14 => ?_
        obtain ⟨a18, c19, rfl⟩ := own_slice o13
        have e15 := grown_ext g14 e10 fun q hq => (o12.lt q hq).1
        refine ⟨_, _, _, rfl, ?_⟩
        refine append33 (ys := ([] ++ l.take t) ++ [(2, 7)]) (news := l.drop t) o13 (by simp; omega) (rows_drop (hr.ext e15) hl hnc t (by omega)) (by simp; omega) e15.size fun r23 w24 o20 g21 => ?_
        obtain ⟨a25, c26, rfl⟩ := own_slice o20
        have e22 := grown_ext g21 e15 fun q hq => (o13.lt q hq).1
        exact ⟨_, _, _, rfl, rfl, e22, o20⟩
      · refine ⟨?_, ?_⟩
        · skip
          refine append33 (ys := []) (news := l.take t) o2 (by simp; omega) (rows_take (hr.ext e1) t c) (by simp; omega) e1.size fun r30 w31 o27 g28 => ?_
          obtain ⟨a32, c33, rfl⟩ := own_slice o27
          have e29 := grown_ext g28 e1 fun q hq => (o2.lt q hq).1
          refine ⟨_, _, _, rfl, ?_⟩
          refine runs_literal (lit1 2 7) ?_
          refine ⟨_, _, _, rfl, ?_⟩
          have e34 := (e29).alloc (.cells #[.int .i64 2, .int .i64 7] 41)
          have rw35 := rows1 (w31) 2 7
          have o36 := (o27).alloc (.cells #[.int .i64 2, .int .i64 7] 41)
          refine append33 (ys := [] ++ l.take t) (news := [(2, 7)]) o36 rfl (rw35) (by simp; omega) e34.size fun r40 w41 o37 g38 => ?_
          obtain ⟨a42, c43, rfl⟩ := own_slice o37
          have e39 := grown_ext g38 e34 fun q hq => (o36.lt q hq).1
          refine ⟨_, _, _, rfl, ?_⟩
          refine append33 (ys := ([] ++ l.take t) ++ [(2, 7)]) (news := l.drop t) o37 (by simp; omega) (rows_drop (hr.ext e39) hl hnc t (by omega)) (by simp; omega) e39.size fun r47 w48 o44 g45 => ?_
          obtain ⟨a49, c50, rfl⟩ := own_slice o44
          have e46 := grown_ext g45 e39 fun q hq => (o37.lt q hq).1
          exact ⟨_, _, _, rfl, rfl, e46, o44⟩
        · skip
          refine runs_literal (lit1 2 7) ?_
          refine ⟨_, _, _, rfl, ?_⟩
          have e51 := (e1).alloc (.cells #[.int .i64 2, .int .i64 7] 41)
          have rw52 := rows1 ((v6).alloc (.cells #[] 41)) 2 7
          have o53 := (o2).alloc (.cells #[.int .i64 2, .int .i64 7] 41)
          refine append33 (ys := []) (news := l.take t) o53 (by simp; omega) (rows_take (hr.ext e51) t c) (by simp; omega) e51.size fun r57 w58 o54 g55 => ?_
          obtain ⟨a59, c60, rfl⟩ := own_slice o54
          have e56 := grown_ext g55 e51 fun q hq => (o53.lt q hq).1
          have rw61 := rows_grown rw52 g55 (by intro ad had; cases had; simp [Value.ownBlock, World.size_alloc])
          refine ⟨_, _, _, rfl, ?_⟩
          refine append33 (ys := [] ++ l.take t) (news := [(2, 7)]) o54 rfl (rw61) (by simp; omega) e56.size fun r65 w66 o62 g63 => ?_
          obtain ⟨a67, c68, rfl⟩ := own_slice o62
          have e64 := grown_ext g63 e56 fun q hq => (o54.lt q hq).1
          refine ⟨_, _, _, rfl, ?_⟩
          refine append33 (ys := ([] ++ l.take t) ++ [(2, 7)]) (news := l.drop t) o62 (by simp; omega) (rows_drop (hr.ext e64) hl hnc t (by omega)) (by simp; omega) e64.size fun r72 w73 o69 g70 => ?_
          obtain ⟨a74, c75, rfl⟩ := own_slice o69
          have e71 := grown_ext g70 e64 fun q hq => (o62.lt q hq).1
          exact ⟨_, _, _, rfl, rfl, e71, o69⟩
    · refine ⟨?_, ?_⟩
      · skip
        refine runs_literal lit0 ?_
        refine ⟨_, _, _, rfl, ?_⟩
        have e76 := (e6.ext).alloc (.cells #[] 41)
        have o77 := own0 v.heap.size _ (e6.ext).size
        refine ⟨?_, ?_⟩
        · skip
          refine append33 (ys := []) (news := l.take t) o77 (by simp; omega) (rows_take (hr.ext e76) t c) (by simp; omega) e76.size fun r81 w82 o78 g79 => ?_
          obtain ⟨a83, c84, rfl⟩ := own_slice o78
          have e80 := grown_ext g79 e76 fun q hq => (o77.lt q hq).1
          refine ⟨_, _, _, rfl, ?_⟩
          refine runs_literal (lit1 2 7) ?_
          refine ⟨_, _, _, rfl, ?_⟩
          have e85 := (e80).alloc (.cells #[.int .i64 2, .int .i64 7] 41)
          have rw86 := rows1 (w82) 2 7
          have o87 := (o78).alloc (.cells #[.int .i64 2, .int .i64 7] 41)
          refine append33 (ys := [] ++ l.take t) (news := [(2, 7)]) o87 rfl (rw86) (by simp; omega) e85.size fun r91 w92 o88 g89 => ?_
          obtain ⟨a93, c94, rfl⟩ := own_slice o88
          have e90 := grown_ext g89 e85 fun q hq => (o87.lt q hq).1
          refine ⟨_, _, _, rfl, ?_⟩
          refine append33 (ys := ([] ++ l.take t) ++ [(2, 7)]) (news := l.drop t) o88 (by simp; omega) (rows_drop (hr.ext e90) hl hnc t (by omega)) (by simp; omega) e90.size fun r98 w99 o95 g96 => ?_
          obtain ⟨a100, c101, rfl⟩ := own_slice o95
          have e97 := grown_ext g96 e90 fun q hq => (o88.lt q hq).1
          exact ⟨_, _, _, rfl, rfl, e97, o95⟩
        · skip
          refine runs_literal (lit1 2 7) ?_
          refine ⟨_, _, _, rfl, ?_⟩
          have e102 := (e76).alloc (.cells #[.int .i64 2, .int .i64 7] 41)
          have rw103 := rows1 ((v6).alloc (.cells #[] 41)) 2 7
          have o104 := (o77).alloc (.cells #[.int .i64 2, .int .i64 7] 41)
          refine append33 (ys := []) (news := l.take t) o104 (by simp; omega) (rows_take (hr.ext e102) t c) (by simp; omega) e102.size fun r108 w109 o105 g106 => ?_
          obtain ⟨a110, c111, rfl⟩ := own_slice o105
          have e107 := grown_ext g106 e102 fun q hq => (o104.lt q hq).1
          have rw112 := rows_grown rw103 g106 (by intro ad had; cases had; simp [Value.ownBlock, World.size_alloc])
          refine ⟨_, _, _, rfl, ?_⟩
          refine append33 (ys := [] ++ l.take t) (news := [(2, 7)]) o105 rfl (rw112) (by simp; omega) e107.size fun r116 w117 o113 g114 => ?_
          obtain ⟨a118, c119, rfl⟩ := own_slice o113
          have e115 := grown_ext g114 e107 fun q hq => (o105.lt q hq).1
          refine ⟨_, _, _, rfl, ?_⟩
          refine append33 (ys := ([] ++ l.take t) ++ [(2, 7)]) (news := l.drop t) o113 (by simp; omega) (rows_drop (hr.ext e115) hl hnc t (by omega)) (by simp; omega) e115.size fun r123 w124 o120 g121 => ?_
          obtain ⟨a125, c126, rfl⟩ := own_slice o120
          have e122 := grown_ext g121 e115 fun q hq => (o113.lt q hq).1
          exact ⟨_, _, _, rfl, rfl, e122, o120⟩
      · skip
        refine runs_literal (lit1 2 7) ?_
        refine ⟨_, _, _, rfl, ?_⟩
        have e127 := (e6.ext).alloc (.cells #[.int .i64 2, .int .i64 7] 41)
        have rw128 := rows1 (v6) 2 7
        refine runs_literal lit0 ?_
        refine ⟨_, _, _, rfl, ?_⟩
        have e129 := (e127).alloc (.cells #[] 41)
        have o130 := own0 v.heap.size _ (e127).size
        have rw131 := (rw128).ext ((Ext.refl _).alloc (.cells #[] 41))
        refine append33 (ys := []) (news := l.take t) o130 (by simp; omega) (rows_take (hr.ext e129) t c) (by simp; omega) e129.size fun r135 w136 o132 g133 => ?_
        obtain ⟨a137, c138, rfl⟩ := own_slice o132
        have e134 := grown_ext g133 e129 fun q hq => (o130.lt q hq).1
        have rw139 := rows_grown rw131 g133 (by intro ad had; cases had; simp [Value.ownBlock, World.size_alloc])
        refine ⟨_, _, _, rfl, ?_⟩
        refine append33 (ys := [] ++ l.take t) (news := [(2, 7)]) o132 rfl (rw139) (by simp; omega) e134.size fun r143 w144 o140 g141 => ?_
        obtain ⟨a145, c146, rfl⟩ := own_slice o140
        have e142 := grown_ext g141 e134 fun q hq => (o132.lt q hq).1
        refine ⟨_, _, _, rfl, ?_⟩
        refine append33 (ys := ([] ++ l.take t) ++ [(2, 7)]) (news := l.drop t) o140 (by simp; omega) (rows_drop (hr.ext e142) hl hnc t (by omega)) (by simp; omega) e142.size fun r150 w151 o147 g148 => ?_
        obtain ⟨a152, c153, rfl⟩ := own_slice o147
        have e149 := grown_ext g148 e142 fun q hq => (o140.lt q hq).1
        exact ⟨_, _, _, rfl, rfl, e149, o147⟩
  · rintro s m c' v5 ⟨e5, ho⟩
    have hm : m = (([] ++ l.take t) ++ [(2, 7)] ++ l.drop t).length := by
      have := ho.1
      have hf : ∀ q : List (Int × Int), (q.map enc2).flatten.length = q.length * 2 := fun q => by
        induction q with
        | nil => rfl
        | cons x q ih => simp only [List.map_cons, List.flatten_cons, List.length_append, ih, List.length_cons]; simp [enc2]; omega
      rw [hf] at this
      omega
    have hm2 : m ≤ 400 := by rw [hm]; simp; omega
    refine (c_sets_First _).mono ?_
    rintro r v34 ⟨rfl, h34⟩
    refine ⟨4096, 1, 2147483647, 65535, 16384, 2147483647, rfl, ?_⟩
    refine (c_Apply s0 _ s m c' v34 hm.symm (by omega) ((Cells.rows (len2 _) (by decide) (owns_cells ho).2).ext h34.ext)).mono ?_
    rintro r v35 ⟨rfl, h35⟩
    rcases hx : runA s0 (([] ++ l.take t) ++ [(2, 7)] ++ l.drop t) with ⟨⟨x1, x2, x3, x4, x5, x6⟩, f1, f2, f3⟩
    refine ⟨x1, x2, x3, x4, x5, x6, f1, f2, f3, rfl, ?_⟩
    refine ⟨4096, 1, 2147483647, 65535, 16384, 2147483647, fun w hw => c_sets_First w, ?_⟩
    refine ⟨⟨by omega, by omega, by omega⟩, ?_⟩
    rcases hy : runA s0 (l.take t) with ⟨⟨y1, y2, y3, y4, y5, y6⟩, u1, u2, u3⟩
    have e35 : Ext v (hv (hv v35)) := e5.trans ((h34.trans h35).hv.hv).ext
    refine ⟨y1, y2, y3, y4, y5, y6, u1, u2, u3, fun w hw => ?_, ?_⟩
    · have := c_Apply s0 (l.take t) _ (t - ((0 : Int)).toNat) (c - ((0 : Int)).toNat) w (by simp; omega) (by omega) (rows_take (hr.ext (e35.trans hw.ext)) t c)
      rw [hy] at this
      exact this
    intro v36 hv36
    have e36 : Ext v v36 := e35.trans hv36.ext
    have happ : runA s0 l = cond u1 ((y1, y2, y3, y4, y5, y6), u1, u2, u3) (runA (y1, y2, y3, y4, y5, y6) (l.drop t)) := by
      have := runA_append s0 (l.take t) (l.drop t)
      rw [List.take_append_drop, hy] at this
      exact this
    have hwhole : runA s0 (([] ++ l.take t) ++ [(2, 7)] ++ l.drop t) = cond u1 ((y1, y2, y3, y4, y5, y6), u1, u2, u3) (zeroS, true, true, 1) := by
      rw [List.nil_append, List.append_assoc, runA_append, hy]
      rfl
    rw [hx] at hwhole
    cases hu : u1 with
    | true =>
      rcases runA_cases s0 (l.take t) with ⟨k, g1, _⟩ | ⟨g1, _⟩
      · rw [hy] at g1
        simp [zeroS] at g1
        obtain ⟨⟨rfl, rfl, rfl, rfl, rfl, rfl⟩, rfl, rfl, rfl⟩ := g1
        rw [hq] at happ
        simp at happ hwhole
        obtain ⟨⟨rfl, rfl, rfl, rfl, rfl, rfl⟩, rfl, rfl, rfl⟩ := happ
        obtain ⟨⟨rfl, rfl, rfl, rfl, rfl, rfl⟩, rfl, rfl, rfl⟩ := hwhole
        refine bcase_of (fun h => by simp at h) (fun _ => ?_)
        refine (c_first13 _).mono ?_
        rintro r v37 ⟨rfl, h37⟩
        exact ⟨true, rfl, by simp, e36.trans h37.ext⟩
      · rw [hy] at g1
        simp at g1
        rw [hu] at g1
        exact absurd g1.2.1 (by decide)
    | false =>
      rw [hu, cond_false] at hwhole
      simp [zeroS] at hwhole
      obtain ⟨⟨rfl, rfl, rfl, rfl, rfl, rfl⟩, rfl, rfl, rfl⟩ := hwhole
      refine bcase_of (fun h => by simp at h) (fun _ => ?_)
      refine (c_first13 _).mono ?_
      rintro r v38 ⟨rfl, h38⟩
      exact ⟨true, rfl, by simp, e36.trans h38.ext⟩
end Go.Proofs.Ytnlekdpnjphmfaa
