/- Settings: in parts as at once; the last of an ID counts. -/
import Derived.Test.YtnlekdpnjphmfaaSetsP
import Derived.Test.YtnlekdpnjphmfaaSetsE
namespace Go.Proofs.Ytnlekdpnjphmfaa
open Vc
set_option linter.unusedVariables false
theorem map_zero (a : Option Addr) : a.map (·.add (((0 : Int)).toNat * 2)) = a := by cases a <;> simp [Addr.add_zero']
theorem rows_take {v : World} {a : Option Addr} {l : List (Int × Int)} (h : RowsAt v a 2 (l.map enc2)) (k c : Nat) : RowsAt v (if c = ((0 : Int)).toNat then a else a.map (·.add (((0 : Int)).toNat * 2))) 2 ((l.take k).map enc2) := by
  have e : (if c = ((0 : Int)).toNat then a else a.map (·.add (((0 : Int)).toNat * 2))) = a := by rw [map_zero]; split <;> rfl
  rw [e, List.map_take]
  exact h.take k
theorem rows_drop {v : World} {a : Option Addr} {l : List (Int × Int)} (h : RowsAt v a 2 (l.map enc2)) {n c : Nat} (hl : l.length = n) (hc : n ≤ c) (k : Nat) (hk : k ≤ n) : RowsAt v (if c = ((k : Int)).toNat then a else a.map (·.add (((k : Int)).toNat * 2))) 2 ((l.drop k).map enc2) := by
  rw [Int.toNat_natCast]
  by_cases e : c = k
  · rw [List.drop_eq_nil_of_le (by omega)]; exact RowsAt.nil
  · rw [if_neg e, List.map_drop]; exact h.drop k
theorem info33 : Try.prog.info? 41 = some ((Try.prog.info? 41).get (by kernel_rfl)) := (Option.some_get _).symm
theorem append33 {v : World} {base : Nat} {s : Value} {k : Nat} {ys : List (Int × Int)} (hown : v.ownsRow base 41 2 s k (ys.map enc2).flatten) {a : Option Addr} {m c : Nat} {news : List (Int × Int)} (hl : news.length = m) (hr : RowsAt v a 2 (news.map enc2))
    (hs : k + m ≤ 1000000) (hbase : base ≤ v.heap.size) {cs : Array Bool} {K : Next → World → Prop} (hK : ∀ r v', v'.ownsRow base 41 2 r (k + m) ((ys ++ news).map enc2).flatten → v.grownBy v' s.ownBlock → K (.value r) v') :
    Runs Try.prog (builtin .append #[33, 33] 33 cs #[s, .slice a m c]) v K := by
  have hflat : ∀ q : List (Int × Int), (q.map enc2).flatten.length = q.length * 2 := fun q => by
    induction q with
    | nil => rfl
    | cons x q ih => simp only [List.map_cons, List.flatten_cons, List.length_append, ih, List.length_cons]; simp [enc2]; omega
  refine runs_append base 33 33 41 _ (.agg #[.int .i64 0, .int .i64 0]) 2 16 Try.underlying33 info33 (by kernel_rfl) (by kernel_rfl) (by kernel_rfl) rfl (by decide) hown (by rw [hflat, hl]) (RowsAt.cells (by intro r hr; obtain ⟨x, _, rfl⟩ := List.mem_map.1 hr; rfl) (by decide) hr) ?_ (by unfold maxLen; omega) (by omega) hbase fun r v' h1 h2 => hK r v' (by rw [List.map_append, List.flatten_append]; exact h1) h2
  refine List.all_eq_true.2 fun u hu => ?_
  obtain ⟨r, hr, hu⟩ := List.mem_flatten.1 hu
  obtain ⟨x, _, rfl⟩ := List.mem_map.1 hr
  simp [enc2] at hu
  rcases hu with rfl | rfl <;> rfl
theorem own_slice {v : World} {base : Nat} {e : TypeId} {size : Nat} {s : Value} {n : Nat} {xs : List Value} (ho : v.ownsRow base e size s n xs) : ∃ a c, s = .slice a n c := by
  rcases ho.2 with ⟨rfl, rfl⟩ | ⟨g, cap, cur, rfl, _⟩
  · exact ⟨none, 0, rfl⟩
  · exact ⟨_, _, rfl⟩
theorem len2 (q : List (Int × Int)) : ∀ r ∈ q.map enc2, r.length = 2 := by
  intro r hr; obtain ⟨x, _, rfl⟩ := List.mem_map.1 hr; rfl
theorem c_SetsLast (l : List (Int × Int)) (a : Option Addr) (n c : Nat) (cut : Int) (v : World) (hl : l.length = n) (hnc : n ≤ c) (hr : RowsAt v a 2 (l.map enc2)) :
    CallsV Try.prog 5 #[.slice a n c, .int .i64 cut] v fun r v' => r = .bool true ∧ Ext v v' := by
  refine fn_sound (E := E) Try.func5 (Eq.mpr (t_wlvlaw13_SetsLast a n c cut v _) ?_)
  refine (c_first13 _).mono ?_
  rintro r v1 ⟨rfl, h1⟩
  refine ⟨true, rfl, ?_⟩
  refine bcase_of (fun h => by cases h) (fun _ => ?_)
  refine bcase_of (fun h => ?_) (fun h => ?_)
  · refine (c_first13 _).mono ?_
    rintro r v2 ⟨rfl, h2⟩
    exact ⟨true, rfl, rfl, (h1.trans h2).ext⟩
  have hb : n ≤ 300 ∧ 0 ≤ cut ∧ cut ≤ n := by simp at h; omega
  obtain ⟨hn, hc0, hc1⟩ := hb
  obtain ⟨t, rfl⟩ : ∃ t : Nat, cut = t := ⟨cut.toNat, by omega⟩
  refine (c_sets_First _).mono ?_
  rintro r v3 ⟨rfl, h3⟩
  refine ⟨4096, 1, 2147483647, 65535, 16384, 2147483647, rfl, ?_⟩
  refine (c_Apply s0 l a n c v3 hl (by omega) (hr.ext (h1.trans h3).ext)).mono ?_
  rintro r v4 ⟨rfl, h4⟩
  rcases hq : runA s0 l with ⟨⟨q1, q2, q3, q4, q5, q6⟩, p1, p2, p3⟩
  refine ⟨q1, q2, q3, q4, q5, q6, p1, p2, p3, rfl, ?_⟩
  refine ⟨4096, 1, 2147483647, 65535, 16384, 2147483647, fun w hw => c_sets_First w, ?_⟩
  refine ⟨⟨by omega, by omega, by omega⟩, ?_⟩
  rcases hy : runA s0 (l.take t) with ⟨⟨y1, y2, y3, y4, y5, y6⟩, u1, u2, u3⟩
  have e4 : Pad v (hv (hv v4)) := ((h1.trans h3).trans h4).hv.hv
  refine ⟨y1, y2, y3, y4, y5, y6, u1, u2, u3, fun w hw => ?_, ?_⟩
  · have := c_Apply s0 (l.take t) _ (t - ((0 : Int)).toNat) (c - ((0 : Int)).toNat) w (by simp; omega) (by omega) (rows_take (hr.ext (e4.trans hw).ext) t c)
    rw [hy] at this
    exact this
  intro v5 hv5
  have e5 : Pad v v5 := e4.trans hv5
  have happ : runA s0 l = cond u1 ((y1, y2, y3, y4, y5, y6), u1, u2, u3) (runA (y1, y2, y3, y4, y5, y6) (l.drop t)) := by
    have := runA_append s0 (l.take t) (l.drop t)
    rw [List.take_append_drop, hy] at this
    exact this
  refine bcase_of (fun hu => ?_) (fun hu => ?_)
  · refine (c_first13 _).mono ?_
    rintro r v6 ⟨rfl, h6⟩
    refine ⟨true, rfl, ?_, (e5.trans h6).ext⟩
    rcases runA_cases s0 (l.take t) with ⟨k, g1, _⟩ | ⟨g1, _⟩
    · rw [hy] at g1
      simp [zeroS] at g1
      obtain ⟨⟨rfl, rfl, rfl, rfl, rfl, rfl⟩, rfl, rfl, rfl⟩ := g1
      rw [hq] at happ
      simp at happ
      obtain ⟨⟨rfl, rfl, rfl, rfl, rfl, rfl⟩, rfl, rfl, rfl⟩ := happ
      simp
    · rw [hy] at g1
      simp at g1
      rw [hu] at g1
      exact absurd g1.2.1 (by decide)
  refine ⟨⟨by omega, by omega, by omega⟩, ?_⟩
  rw [hq, hu, cond_false] at happ
  refine ⟨q1, q2, q3, q4, q5, q6, p1, p2, p3, fun w hw => ?_, ?_⟩
  · have := c_Apply (y1, y2, y3, y4, y5, y6) (l.drop t) _ (((n : Int)).toNat - ((t : Int)).toNat) (c - ((t : Int)).toNat) w (by simp; omega) (by omega) (rows_drop (hr.ext (e5.trans hw).ext) hl hnc t (by omega))
    rw [← happ] at this
    exact this
  intro v7 hv7
  have e7 : Pad v v7 := e5.trans hv7
  refine bcase_of (fun hx => by simp at hx) (fun _ => ?_)
  refine bcase_of (fun hp => ?_) (fun hp => ?_)
  · refine (c_first13 _).mono ?_
    rintro r v8 ⟨rfl, h8⟩
    exact ⟨true, rfl, rfl, (e7.trans h8).ext⟩
  have hall : ∀ x ∈ l, wrongA x = 0 := by
    rcases runA_cases s0 l with ⟨k, g1, _⟩ | ⟨_, g2⟩
    · rw [hq] at g1
      simp at g1
      rw [hp] at g1
      exact absurd g1.2.1 (by decide)
    · exact g2
  refine ⟨fun s m c' i v9 => ∃ (k : Nat) (ys : List (Int × Int)), i = (k : Int) ∧ k ≤ n ∧ Ext v v9 ∧ v9.ownsRow v.heap.size 41 2 (.slice s m c') m (ys.map enc2).flatten ∧ ys.length ≤ k ∧ ys.length = m ∧ ys ++ lastOf (l.drop k) = lastOf l,
    fun _ _ _ i _ => ((n : Int) - i).toNat, ⟨0, [], rfl, Nat.zero_le _, e7.ext, World.ownsRow_nil v7 _ _ _, Nat.le_refl _, rfl, rfl⟩, ?_⟩
  rintro s m c' i v9 ⟨k, ys, rfl, hk, e9, ho, hyl, hym, hys⟩
  refine bcase_of (fun hlt => ?_) (fun hge => ?_)
  · have hlt : k < n := by simpa using hlt
    obtain ⟨x, hx⟩ := get_some (l := l) (k := k) (by omega)
    obtain ⟨ad, ha, _⟩ := hr k (enc2 x) (by simp [hx])
    have cells : ∀ (w : World), Ext v w → ∀ {i : Nat} {y : Int × Int}, l[i]? = some y → w.cell? ((ad.add (i * 2)).add 0) = some (.int .i64 y.1) ∧ w.cell? ((ad.add (i * 2)).add 1) = some (.int .i64 y.2) := fun w hw i y hy =>
      ⟨(hr.ext hw).at ha (cs := enc2 y) (by simp [hy]) (j := 0) rfl, (hr.ext hw).at ha (cs := enc2 y) (by simp [hy]) (j := 1) rfl⟩
    refine ⟨ad, ha, by omega, by omega, x.1, by simpa only [Int.toNat_natCast, Addr.add_zero'] using (cells v9 e9 hx).1, ?_⟩
    refine bcase_of (fun g1 => ?_) (fun g1 => ?_)
    · refine ⟨ad, ha, by omega, by omega, x.1, by simpa only [Int.toNat_natCast, Addr.add_zero'] using (cells v9 e9 hx).1, ?_⟩
      refine ⟨fun b j v10 => ∃ jn : Nat, j = (jn : Int) ∧ k + 1 ≤ jn ∧ jn ≤ n ∧ Pad v9 v10 ∧ (b && (l.drop jn).all fun y => y.1 != x.1) = (in6 x && (l.drop (k + 1)).all fun y => y.1 != x.1), fun _ j _ => ((n : Int) - j).toNat,
        ⟨k + 1, wrap1 hlt (by omega), Nat.le_refl _, hlt, .refl, by rw [show in6 x = decide (x.1 ≤ 6) by simp only [in6, g1, Bool.true_and]]⟩, ?_⟩
      rintro b j v10 ⟨jn, rfl, hj1, hj2, hp10, hb⟩
      have cell10 := fun {i : Nat} {y : Int × Int} (hy : l[i]? = some y) => cells v10 (e9.trans hp10.ext) hy
      refine bcase_of (fun hlt2 => ?_) (fun hge => ?_)
      · have hlt2 : jn < n := by simpa using hlt2
        obtain ⟨y, hy⟩ := get_some (l := l) (k := jn) (by omega)
        refine ⟨ad, fun _ => ⟨ha, by omega, by omega⟩, y.1, fun _ => ⟨by simpa only [Int.toNat_natCast, Addr.add_zero'] using (cell10 hy).1, trivial⟩, ad, fun _ => ⟨ha, by omega, by omega⟩, x.1, fun _ => ⟨by simpa only [Int.toNat_natCast, Addr.add_zero'] using (cell10 hx).1, trivial⟩, fun v11 hp11 => ⟨rfl, ⟨jn + 1, wrap1 hlt2 (by omega), by omega, by omega, hp10.trans hp11, ?_⟩, ?_⟩⟩
        · rw [← hb, drop_at hy, List.all_cons, Bool.and_assoc]
        · rw [wrap1 hlt2 (by omega)]; dsimp only; omega
      · have hge : n ≤ jn := by simpa using hge
        rw [List.drop_eq_nil_of_le (show l.length ≤ jn by omega), List.all_nil, Bool.and_true] at hb
        have hys' := hys
        rw [drop_at hx, lastOf, ← hb] at hys'
        refine bcase_of (fun hbt => ?_) (fun hbf => ?_)
        · rw [hbt, cond_true] at hys'
          refine ⟨ad, ha, by omega, by omega, x.1, by simpa only [Int.toNat_natCast, Addr.add_zero'] using (cell10 hx).1, x.2, by simpa only [Int.toNat_natCast] using (cell10 hx).2, ?_⟩
          refine runs_literal (lit1 x.1 x.2) ?_
          refine ⟨_, _, _, rfl, ?_⟩
          have e12 := (e9.trans hp10.ext).alloc (.cells #[.int .i64 x.1, .int .i64 x.2] 41)
          refine append33 (ys := ys) (news := [x]) ((hp10.owns ho).alloc _) rfl (rows1 v10 x.1 x.2) (by simp; omega) e12.size fun r v' ho' hg' => ?_
          obtain ⟨a', c'', rfl⟩ := own_slice ho'
          have e13 := grown_ext hg' e12 fun q hq => (ho.lt q hq).1
          refine ⟨a', m + 1, c'', rfl, rfl, ⟨k + 1, ys ++ [x], wrap1 hlt (by omega), hlt, e13, ho', by simp; omega, by simp; omega, by rw [List.append_assoc]; exact hys'⟩, ?_⟩
          rw [wrap1 hlt (by omega)]; dsimp only; omega
        · rw [hbf, cond_false] at hys'
          refine ⟨rfl, ⟨k + 1, ys, wrap1 hlt (by omega), hlt, e9.trans hp10.ext, hp10.owns ho, by omega, hym, hys'⟩, ?_⟩
          rw [wrap1 hlt (by omega)]; dsimp only; omega
    · skip
      refine ⟨fun b j v10 => ∃ jn : Nat, j = (jn : Int) ∧ k + 1 ≤ jn ∧ jn ≤ n ∧ Pad v9 v10 ∧ (b && (l.drop jn).all fun y => y.1 != x.1) = (in6 x && (l.drop (k + 1)).all fun y => y.1 != x.1), fun _ j _ => ((n : Int) - j).toNat,
        ⟨k + 1, wrap1 hlt (by omega), Nat.le_refl _, hlt, .refl, by rw [show in6 x = false by simp only [in6, g1, Bool.false_and]]⟩, ?_⟩
      rintro b j v10 ⟨jn, rfl, hj1, hj2, hp10, hb⟩
      have cell10 := fun {i : Nat} {y : Int × Int} (hy : l[i]? = some y) => cells v10 (e9.trans hp10.ext) hy
      refine bcase_of (fun hlt2 => ?_) (fun hge => ?_)
      · have hlt2 : jn < n := by simpa using hlt2
        obtain ⟨y, hy⟩ := get_some (l := l) (k := jn) (by omega)
        refine ⟨ad, fun _ => ⟨ha, by omega, by omega⟩, y.1, fun _ => ⟨by simpa only [Int.toNat_natCast, Addr.add_zero'] using (cell10 hy).1, trivial⟩, ad, fun _ => ⟨ha, by omega, by omega⟩, x.1, fun _ => ⟨by simpa only [Int.toNat_natCast, Addr.add_zero'] using (cell10 hx).1, trivial⟩, fun v11 hp11 => ⟨rfl, ⟨jn + 1, wrap1 hlt2 (by omega), by omega, by omega, hp10.trans hp11, ?_⟩, ?_⟩⟩
        · rw [← hb, drop_at hy, List.all_cons, Bool.and_assoc]
        · rw [wrap1 hlt2 (by omega)]; dsimp only; omega
      · have hge : n ≤ jn := by simpa using hge
        rw [List.drop_eq_nil_of_le (show l.length ≤ jn by omega), List.all_nil, Bool.and_true] at hb
        have hys' := hys
        rw [drop_at hx, lastOf, ← hb] at hys'
        refine bcase_of (fun hbt => ?_) (fun hbf => ?_)
        · rw [hbt, cond_true] at hys'
          refine ⟨ad, ha, by omega, by omega, x.1, by simpa only [Int.toNat_natCast, Addr.add_zero'] using (cell10 hx).1, x.2, by simpa only [Int.toNat_natCast] using (cell10 hx).2, ?_⟩
          refine runs_literal (lit1 x.1 x.2) ?_
          refine ⟨_, _, _, rfl, ?_⟩
          have e12 := (e9.trans hp10.ext).alloc (.cells #[.int .i64 x.1, .int .i64 x.2] 41)
          refine append33 (ys := ys) (news := [x]) ((hp10.owns ho).alloc _) rfl (rows1 v10 x.1 x.2) (by simp; omega) e12.size fun r v' ho' hg' => ?_
          obtain ⟨a', c'', rfl⟩ := own_slice ho'
          have e13 := grown_ext hg' e12 fun q hq => (ho.lt q hq).1
          refine ⟨a', m + 1, c'', rfl, rfl, ⟨k + 1, ys ++ [x], wrap1 hlt (by omega), hlt, e13, ho', by simp; omega, by simp; omega, by rw [List.append_assoc]; exact hys'⟩, ?_⟩
          rw [wrap1 hlt (by omega)]; dsimp only; omega
        · rw [hbf, cond_false] at hys'
          refine ⟨rfl, ⟨k + 1, ys, wrap1 hlt (by omega), hlt, e9.trans hp10.ext, hp10.owns ho, by omega, hym, hys'⟩, ?_⟩
          rw [wrap1 hlt (by omega)]; dsimp only; omega
  · have hge : n ≤ k := by simpa using hge
    rw [List.drop_eq_nil_of_le (show l.length ≤ k by omega)] at hys
    have hys2 : ys = lastOf l := by simpa [lastOf] using hys
    refine (c_sets_First _).mono ?_
    rintro r v18 ⟨rfl, h18⟩
    refine ⟨4096, 1, 2147483647, 65535, 16384, 2147483647, rfl, ?_⟩
    refine (c_Apply s0 ys s m c' v18 hym (by omega) ((Cells.rows (len2 ys) (by decide) (owns_cells ho).2).ext h18.ext)).mono ?_
    rintro r v19 ⟨rfl, h19⟩
    rw [hys2, run_last hall, hq]
    refine ⟨q1, q2, q3, q4, q5, q6, p1, p2, p3, rfl, ?_⟩
    refine (c_first13 _).mono ?_
    rintro r v20 ⟨rfl, h20⟩
    refine ⟨true, rfl, ?_, e9.trans (((h18.trans h19).hv.hv).trans h20).ext⟩
    simp [hp]
end Go.Proofs.Ytnlekdpnjphmfaa
