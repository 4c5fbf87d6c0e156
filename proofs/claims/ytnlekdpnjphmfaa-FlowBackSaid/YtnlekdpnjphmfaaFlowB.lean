/- Windows: FlowBack, FlowMany. -/
import Derived.Test.YtnlekdpnjphmfaaFlowT
namespace Go.Proofs.Ytnlekdpnjphmfaa
open Vc
set_option linter.unusedVariables false
theorem c_FlowBack (i1 i2 i3 i4 : Int) (v : World) : CallsV Try.prog 9 #[.int .i64 i1, .int .i64 i2, .int .i64 i3, .int .i64 i4] v fun r v' => r = .bool true ∧ Ext v v' := by
  refine fn_sound (E := E) Try.func9 (Eq.mpr (t_wlvlaw12_FlowBack i1 i2 i3 i4 v _) ?_)
  refine (c_first12 v).mono ?_
  rintro r v1 ⟨rfl, h1⟩
  refine ⟨true, rfl, ?_⟩
  refine bcase_of (fun h => by cases h) (fun _ => ?_)
  refine bcase_of (fun h => ?_) (fun h => ?_)
  · refine (c_first12 v1).mono ?_
    rintro r v2 ⟨rfl, h2⟩
    exact ⟨true, rfl, rfl, (h1.trans h2).ext⟩
  have hh : In i1 ∧ In i2 ∧ In i4 := by simp at h; unfold In; omega
  obtain ⟨g1, g2, g4⟩ := hh
  have hcut : ∀ {n : Int}, n ≤ 2147483647 → F_flow_cut n = if (-2147483647) > n then (-2147483647) else n := fun {n} hn => by unfold F_flow_cut; split <;> split at * <;> omega
  rw [wr (x := i1 + i4) (by unfold In at *; omega)]
  refine (c_Windows i1 i2 v1).mono ?_
  rintro r v3 ⟨rfl, h3⟩
  rw [cut_in g1, cut_in g2]
  refine ⟨fl i1, fl i2, rfl, ?_⟩
  refine (c_Stream g1 g2 _).mono ?_
  rintro r v4 ⟨rfl, h4⟩
  refine ⟨i1, rfl, ?_⟩
  refine bcase_of (fun h => by simp at h) (fun _ => ?_)
  refine (c_Conn g1 g2 _).mono ?_
  rintro r v5 ⟨rfl, h5⟩
  refine ⟨i2, rfl, ?_⟩
  refine bcase_of (fun h => by simp at h) (fun _ => ?_)
  refine (c_May g1 g2 _).mono ?_
  rintro r v6 ⟨rfl, h6⟩
  refine ⟨may i1 i2, rfl, ?_⟩
  refine bcase_of (fun h => by unfold may at h; simp at h) (fun _ => ?_)
  refine (c_Spend g1 g2 i3 _).mono ?_
  rintro r v7 ⟨rfl, h7⟩
  have e7 : Pad v v7 := ((((h1.trans h3).trans h4).trans h5).trans h6).trans h7
  by_cases ok : 0 ≤ i3 ∧ i3 ≤ may i1 i2
  · rw [spendF, if_pos ok]
    refine ⟨fl (i1 - i3), fl (i2 - i3), 0, rfl, ?_⟩
    have hm := may_le ok.1 ok.2
    refine bcase_of (fun _ => ?_) (fun h => by simp at h; omega)
    refine (c_May g1 g2 _).mono ?_
    rintro r v8 ⟨rfl, h8⟩
    refine ⟨may i1 i2, rfl, ?_⟩
    refine bcase_of (fun h => by exfalso; simp at h; omega) (fun _ => ?_)
    refine bcase_of (fun _ => ?_) (fun h => by simp at h)
    have a1 : In (i1 - i3) := by unfold In at *; omega
    have a2 : In (i2 - i3) := by unfold In at *; omega
    have a3 : In i3 := by unfold In at *; omega
    rw [wr (x := i1 - i3) (by unfold In at *; omega), wr (x := i2 - i3) (by unfold In at *; omega)]
    refine (c_Grant a1 a2 a3 a3 ok.1 ok.1 _).mono ?_
    rintro r v9 ⟨rfl, h9⟩
    rw [grantF, if_neg (by unfold In at *; omega), if_neg (by unfold In at *; omega), show i1 - i3 + i3 = i1 by omega, show i2 - i3 + i3 = i2 by omega]
    refine ⟨fl i1, fl i2, false, false, 0, rfl, ?_⟩
    rw [o_eq g1.two g1.two, o_eq g2.two g2.two]
    refine bcase_of (fun h => by simp at h) (fun _ => ?_)
    refine (c_Stream a1 a2 _).mono ?_
    rintro r v10 ⟨rfl, h10⟩
    refine ⟨i1 - i3, rfl, ?_⟩
    refine bcase_of (fun h => by simp at h) (fun _ => ?_)
    refine (c_Conn a1 a2 _).mono ?_
    rintro r v11 ⟨rfl, h11⟩
    refine ⟨i2 - i3, rfl, ?_⟩
    refine bcase_of (fun h => by simp at h) (fun _ => ?_)
    have e11 : Pad v v11 := ((((e7.trans h8).trans h9).hv).trans h10).trans h11
    refine (c_Shift g1 g2 g4 _).mono ?_
    rintro r vS ⟨rfl, hS⟩
    by_cases k : i1 + i4 > 2147483647
    · rw [shiftF, if_pos k]
      refine ⟨0, 0, true, true, 3, rfl, ?_⟩
      refine bcase_of (fun _ => ?_) (fun h => by cases h)
      refine (c_first12 _).mono ?_
      rintro r vF ⟨rfl, hF⟩
      exact ⟨true, rfl, by rw [decide_eq_true k]; rfl, (((e11).trans hS).hv.trans hF).ext⟩
    · rw [shiftF, if_neg k]
      refine ⟨_, _, false, false, 0, rfl, ?_⟩
      refine bcase_of (fun h => by cases h) (fun _ => ?_)
      refine (c_first12 _).mono ?_
      rintro r vF ⟨rfl, hF⟩
      refine ⟨true, rfl, ?_⟩
      refine bcase_of (fun _ => ?_) (fun h => by simp at h; omega)
      refine (c_Stream (cut_range (i1 + i4)) g2 _).mono ?_
      rintro r vG ⟨rfl, hG⟩
      refine ⟨F_flow_cut (i1 + i4), rfl, ?_⟩
      refine bcase_of (fun _ => ?_) (fun h => by rw [hcut (by omega)] at h; simp at h)
      refine (c_Conn (cut_range (i1 + i4)) g2 _).mono ?_
      rintro r vH ⟨rfl, hH⟩
      exact ⟨i2, rfl, by simp, (((((e11).trans hS).hv.trans hF).trans hG).trans hH).ext⟩
  · rw [spendF, if_neg ok]
    refine ⟨0, 0, 1, rfl, ?_⟩
    refine bcase_of (fun hp => ?_) (fun hp => ?_)
    · refine (c_May g1 g2 _).mono ?_
      rintro r v8 ⟨rfl, h8⟩
      refine ⟨may i1 i2, rfl, ?_⟩
      refine bcase_of (fun h => by exfalso; simp at h hp; omega) (fun _ => ?_)
      refine bcase_of (fun h => by simp at h) (fun _ => ?_)
      refine (c_Shift g1 g2 g4 _).mono ?_
      rintro r vS ⟨rfl, hS⟩
      by_cases k : i1 + i4 > 2147483647
      · rw [shiftF, if_pos k]
        refine ⟨0, 0, true, true, 3, rfl, ?_⟩
        refine bcase_of (fun _ => ?_) (fun h => by cases h)
        refine (c_first12 _).mono ?_
        rintro r vF ⟨rfl, hF⟩
        exact ⟨true, rfl, by rw [decide_eq_true k]; rfl, (((e7.trans h8).trans hS).hv.trans hF).ext⟩
      · rw [shiftF, if_neg k]
        refine ⟨_, _, false, false, 0, rfl, ?_⟩
        refine bcase_of (fun h => by cases h) (fun _ => ?_)
        refine (c_first12 _).mono ?_
        rintro r vF ⟨rfl, hF⟩
        refine ⟨true, rfl, ?_⟩
        refine bcase_of (fun _ => ?_) (fun h => by simp at h; omega)
        refine (c_Stream (cut_range (i1 + i4)) g2 _).mono ?_
        rintro r vG ⟨rfl, hG⟩
        refine ⟨F_flow_cut (i1 + i4), rfl, ?_⟩
        refine bcase_of (fun _ => ?_) (fun h => by rw [hcut (by omega)] at h; simp at h)
        refine (c_Conn (cut_range (i1 + i4)) g2 _).mono ?_
        rintro r vH ⟨rfl, hH⟩
        exact ⟨i2, rfl, by simp, (((((e7.trans h8).trans hS).hv.trans hF).trans hG).trans hH).ext⟩
    · refine bcase_of (fun h => by simp at h) (fun _ => ?_)
      refine bcase_of (fun h => by simp at h) (fun _ => ?_)
      refine (c_Shift g1 g2 g4 _).mono ?_
      rintro r vS ⟨rfl, hS⟩
      by_cases k : i1 + i4 > 2147483647
      · rw [shiftF, if_pos k]
        refine ⟨0, 0, true, true, 3, rfl, ?_⟩
        refine bcase_of (fun _ => ?_) (fun h => by cases h)
        refine (c_first12 _).mono ?_
        rintro r vF ⟨rfl, hF⟩
        exact ⟨true, rfl, by rw [decide_eq_true k]; rfl, (((e7).trans hS).hv.trans hF).ext⟩
      · rw [shiftF, if_neg k]
        refine ⟨_, _, false, false, 0, rfl, ?_⟩
        refine bcase_of (fun h => by cases h) (fun _ => ?_)
        refine (c_first12 _).mono ?_
        rintro r vF ⟨rfl, hF⟩
        refine ⟨true, rfl, ?_⟩
        refine bcase_of (fun _ => ?_) (fun h => by simp at h; omega)
        refine (c_Stream (cut_range (i1 + i4)) g2 _).mono ?_
        rintro r vG ⟨rfl, hG⟩
        refine ⟨F_flow_cut (i1 + i4), rfl, ?_⟩
        refine bcase_of (fun _ => ?_) (fun h => by rw [hcut (by omega)] at h; simp at h)
        refine (c_Conn (cut_range (i1 + i4)) g2 _).mono ?_
        rintro r vH ⟨rfl, hH⟩
        exact ⟨i2, rfl, by simp, (((((e7).trans hS).hv.trans hF).trans hG).trans hH).ext⟩
theorem wrapk {k n : Nat} (h : k < n) (hn : n ≤ 2 ^ 62) : IntKind.i64.wrap ((k : Int) + 1) = ((k + 1 : Nat) : Int) := by
  rw [IntKind.wrap_i64]; omega
theorem c_FlowMany (i1 i2 : Int) (l : List Int) (a : Option Addr) (n c : Nat) (v : World) (hl : l.length = n) (hr : RowsAt v a 1 (l.map enc1)) :
    CallsV Try.prog 3 #[.int .i64 i1, .int .i64 i2, .slice a n c] v fun r v' => r = .bool true ∧ Ext v v' := by
  refine fn_sound (E := E) Try.func3 (Eq.mpr (t_wlvlaw12_FlowMany i1 i2 a n c v _) ?_)
  refine (c_first12 v).mono ?_
  rintro r v1 ⟨rfl, h1⟩
  refine ⟨true, rfl, ?_⟩
  refine bcase_of (fun h => by cases h) (fun _ => ?_)
  refine bcase_of (fun h => ?_) (fun h => ?_)
  · refine (c_first12 v1).mono ?_
    rintro r v2 ⟨rfl, h2⟩
    exact ⟨true, rfl, rfl, (h1.trans h2).ext⟩
  have hh : 0 ≤ i1 ∧ i1 ≤ 2147483647 ∧ 0 ≤ i2 ∧ i2 ≤ 2147483647 ∧ n ≤ 100 := by simp at h; omega
  have g1 : In i1 := by unfold In; omega
  have g2 : In i2 := by unfold In; omega
  refine (c_Windows i1 i2 v1).mono ?_
  rintro r v3 ⟨rfl, h3⟩
  rw [cut_in g1, cut_in g2]
  refine ⟨fl i1, fl i2, rfl, ?_⟩
  refine ⟨fun re im sum i w => ∃ k : Nat, i = (k : Int) ∧ k ≤ n ∧ re = fl (i1 - sum) ∧ im = fl (i2 - sum) ∧ 0 ≤ sum ∧ sum ≤ i1 ∧ sum ≤ i2 ∧ Pad v w, fun _ _ _ i _ => ((n : Int) - i).toNat,
    ⟨0, rfl, Nat.zero_le _, by rw [Int.sub_zero], by rw [Int.sub_zero], Int.le_refl _, hh.1, hh.2.2.1, h1.trans h3⟩, ?_⟩
  rintro re im sum i v4 ⟨k, rfl, hk, rfl, rfl, s0, s1, s2, e4⟩
  have a1 : In (i1 - sum) := by unfold In; omega
  have a2 : In (i2 - sum) := by unfold In; omega
  refine bcase_of (fun hlt => ?_) (fun hge => ?_)
  · have hlt : k < n := by simpa using hlt
    obtain ⟨x, hx⟩ : ∃ x, l[k]? = some x := ⟨l[k]'(by omega), by simp [show k < l.length by omega]⟩
    obtain ⟨ad, ha, _⟩ := hr k (enc1 x) (by simp [hx])
    have cell : ∀ w : World, Pad v w → w.cell? ((ad.add (((k : Int)).toNat * 1)).add 0) = some (.int .i64 x) := fun w hw => by
      rw [Int.toNat_natCast]
      exact (hr.ext hw.ext).at ha (cs := enc1 x) (by simp [hx]) (j := 0) rfl
    refine ⟨ad, ha, by omega, by omega, x, cell v4 e4, ?_⟩
    refine (c_Spend a1 a2 x _).mono ?_
    rintro r v5 ⟨rfl, h5⟩
    have e5 := e4.trans h5
    by_cases ok : 0 ≤ x ∧ x ≤ may (i1 - sum) (i2 - sum)
    · rw [spendF, if_pos ok]
      have hm := may_le ok.1 ok.2
      have b1 : In (i1 - sum - x) := by unfold In; omega
      have b2 : In (i2 - sum - x) := by unfold In; omega
      refine ⟨fl (i1 - sum - x), fl (i2 - sum - x), 0, rfl, ?_⟩
      refine bcase_of (fun h => by simp at h) (fun _ => ?_)
      refine ⟨ad, ha, by omega, by omega, x, cell v5 e5, ?_⟩
      rw [wr (x := sum + x) (by omega), wr (x := i1 - (sum + x)) (by omega), wr (x := i2 - (sum + x)) (by omega)]
      refine (c_Stream b1 b2 _).mono ?_
      rintro r v7 ⟨rfl, h7⟩
      refine ⟨i1 - sum - x, rfl, ?_⟩
      refine bcase_of (fun h => by exfalso; simp at h; omega) (fun _ => ?_)
      refine (c_Conn b1 b2 _).mono ?_
      rintro r v8 ⟨rfl, h8⟩
      refine ⟨i2 - sum - x, rfl, ?_⟩
      refine bcase_of (fun h => by exfalso; simp at h; omega) (fun _ => ?_)
      refine (c_Stream b1 b2 _).mono ?_
      rintro r v9 ⟨rfl, h9⟩
      refine ⟨i1 - sum - x, rfl, ?_⟩
      refine bcase_of (fun h => by exfalso; simp at h; omega) (fun _ => ?_)
      refine (c_Conn b1 b2 _).mono ?_
      rintro r v10 ⟨rfl, h10⟩
      refine ⟨i2 - sum - x, rfl, ?_⟩
      refine bcase_of (fun h => by exfalso; simp at h; omega) (fun _ => ?_)
      refine ⟨⟨k + 1, wrapk hlt (by omega), hlt, by rw [show i1 - sum - x = i1 - (sum + x) by omega], by rw [show i2 - sum - x = i2 - (sum + x) by omega], by omega, by omega, by omega, (((e5.trans h7).trans h8).trans h9).trans h10⟩, ?_⟩
      rw [wrapk hlt (by omega)]; dsimp only; omega
    · rw [spendF, if_neg ok]
      refine ⟨0, 0, 1, rfl, ?_⟩
      refine bcase_of (fun _ => ?_) (fun h => by simp at h)
      refine ⟨ad, ⟨ha, by omega, by omega⟩, x, ⟨cell v5 e5, trivial⟩, ad, fun _ => ⟨ha, by omega, by omega⟩, x, fun _ => ⟨cell v5 e5, trivial⟩, may (i1 - sum) (i2 - sum), fun _ w hw => c_May a1 a2 w, fun v6 hv6 => ?_⟩
      refine bcase_of (fun h => by exfalso; simp at h; omega) (fun _ => ?_)
      refine ⟨⟨k + 1, wrapk hlt (by omega), hlt, rfl, rfl, s0, s1, s2, e5.trans hv6⟩, ?_⟩
      rw [wrapk hlt (by omega)]; dsimp only; omega
  · refine (c_Windows i1 i2 _).mono ?_
    rintro r v11 ⟨rfl, h11⟩
    rw [cut_in g1, cut_in g2]
    refine ⟨fl i1, fl i2, rfl, ?_⟩
    refine (c_Spend g1 g2 sum _).mono ?_
    rintro r v12 ⟨rfl, h12⟩
    have hmay : sum ≤ may i1 i2 := by unfold may; split <;> split at * <;> omega
    rw [spendF, if_pos ⟨s0, hmay⟩]
    refine ⟨fl (i1 - sum), fl (i2 - sum), 0, rfl, ?_⟩
    refine (c_first12 _).mono ?_
    rintro r v13 ⟨rfl, h13⟩
    refine ⟨true, rfl, ?_, (((e4.trans h11).trans h12).trans h13).ext⟩
    rw [o_eq a1.two a1.two, o_eq a2.two a2.two]
    simp
end Go.Proofs.Ytnlekdpnjphmfaa
