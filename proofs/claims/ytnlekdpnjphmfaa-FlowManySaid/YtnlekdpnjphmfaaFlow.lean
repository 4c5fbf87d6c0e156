/- Windows: what the functions of flow compute on whole numbers. -/
import Derived.Test.YtnlekdpnjphmfaaGFlow
import Derived.Test.YtnlekdpnjphmfaaVfl
import Derived.Test.YtnlekdpnjphmfaaVco
import Derived.Laws.BitsLemmas
namespace Go.Proofs.Ytnlekdpnjphmfaa
open Vc
set_option linter.unusedVariables false
def In (s : Int) : Prop := -2147483647 ≤ s ∧ s ≤ 2147483647
def In2 (s : Int) : Prop := -8589934592 ≤ s ∧ s ≤ 8589934592
theorem In.two {s : Int} (h : In s) : In2 s := by unfold In at h; unfold In2; omega
theorem In2.small {s : Int} (h : In2 s) : s.natAbs < 2 ^ 53 := by unfold In2 at h; omega
theorem o_eq {a b : Int} (ha : In2 a) (hb : In2 b) : (FloatKind.f64.format.order (fl a) (fl b) == some .eq) = decide (a = b) := by
  rw [fl_order ha.small hb.small]
  rcases Int.lt_trichotomy a b with h | h | h
  · simp [compare, compareOfLessAndEq, h, show a ≠ b by omega]
  · subst h; simp [compare, compareOfLessAndEq]
  · simp [compare, compareOfLessAndEq, show ¬ a < b by omega, show a ≠ b by omega]
theorem o_gt {a b : Int} (ha : In2 a) (hb : In2 b) : (FloatKind.f64.format.order (fl a) (fl b) == some .gt) = decide (a > b) := by
  rw [fl_order ha.small hb.small]
  rcases Int.lt_trichotomy a b with h | h | h
  · simp [compare, compareOfLessAndEq, h, show ¬ b < a by omega]
  · subst h; simp [compare, compareOfLessAndEq]
  · simp [compare, compareOfLessAndEq, show ¬ a < b by omega, show a ≠ b by omega, h]
theorem o_lt {a b : Int} (ha : In2 a) (hb : In2 b) : (FloatKind.f64.format.order (fl a) (fl b) == some .lt) = decide (a < b) := by
  rw [fl_order ha.small hb.small]
  rcases Int.lt_trichotomy a b with h | h | h
  · simp [compare, compareOfLessAndEq, h]
  · subst h; simp [compare, compareOfLessAndEq]
  · simp [compare, compareOfLessAndEq, show ¬ a < b by omega, show a ≠ b by omega]
theorem cM : (4746794007244308480 : Nat) = fl 2147483647 := by kernel_rfl
theorem cN : (13970166044099084288 : Nat) = fl (-2147483647) := by kernel_rfl
theorem c10 : (4621819117588971520 : Nat) = fl 10 := by kernel_rfl
theorem c4 : (4616189618054758400 : Nat) = fl 4 := by kernel_rfl
theorem c00 : (0 : Nat) = fl 0 := by kernel_rfl
theorem wr {x : Int} (h : -9000000000000000000 ≤ x ∧ x ≤ 9000000000000000000) : IntKind.i64.wrap x = x := by rw [IntKind.wrap_i64]; omega
theorem c_part {n : Int} (h : In n) (v : World) : CallsV Try.prog 40 #[.float .f64 (fl n)] v fun r v' => r = .tuple #[.int .i64 n, .bool true] ∧ Pad v v' := by
  refine fn_sound (E := E) Try.func40 (Eq.mpr (t_flow_part (fl n) v _) ?_)
  have hN : In2 (-2147483647) := by unfold In2; omega
  have hM : In2 2147483647 := by unfold In2; omega
  rw [cM, cN, o_gt h.two hN, o_eq h.two hN, o_lt h.two hM, o_eq h.two hM]
  have h2 := h
  unfold In at h2
  refine bcase_of (fun hh => ?_) (fun _ => ?_)
  · exfalso; simp at hh; omega
  · have ht := fl_toInt h.two.small
    refine ⟨n, ht, by simp [IntKind.min, IntKind.signed, IntKind.bits]; omega, by simp [IntKind.max, IntKind.signed, IntKind.bits]; omega, n, ht, by simp [IntKind.min, IntKind.signed, IntKind.bits]; omega, by simp [IntKind.max, IntKind.signed, IntKind.bits]; omega, ?_, .refl⟩
    have : (FloatKind.f64.format.order (FloatKind.f64.nearest n) (fl n) == some .eq) = true := by
      have := o_eq h.two h.two
      rw [decide_eq_true rfl] at this
      exact this
    rw [this]
def wz (s c : Int) : Value := .complex .f64 (fl s) (fl c)
theorem c_parts {s c : Int} (hs : In s) (hc : In c) (v : World) : CallsV Try.prog 33 #[wz s c] v fun r v' => r = .tuple #[.int .i64 s, .int .i64 c, .bool true] ∧ Pad v v' := by
  refine fn_sound (E := E) Try.func33 (Eq.mpr (t_flow_parts (fl s) (fl c) v _) ?_)
  refine (c_part hs v).mono ?_
  rintro r v1 ⟨rfl, h1⟩
  refine ⟨s, true, rfl, ?_⟩
  refine (c_part hc v1).mono ?_
  rintro r v2 ⟨rfl, h2⟩
  refine ⟨c, true, rfl, ?_⟩
  refine bcase_of (fun h => by cases h) (fun _ => ⟨rfl, h1.trans h2⟩)
theorem c_Stream {s c : Int} (hs : In s) (hc : In c) (v : World) : CallsV Try.prog 18 #[wz s c] v fun r v' => r = .int .i64 s ∧ Pad v v' := by
  refine fn_sound (E := E) Try.func18 (Eq.mpr (t_flow_Stream (fl s) (fl c) v _) ?_)
  refine (c_parts hs hc v).mono ?_
  rintro r v1 ⟨rfl, h1⟩
  exact ⟨s, c, true, rfl, rfl, h1⟩
theorem c_Conn {s c : Int} (hs : In s) (hc : In c) (v : World) : CallsV Try.prog 19 #[wz s c] v fun r v' => r = .int .i64 c ∧ Pad v v' := by
  refine fn_sound (E := E) Try.func19 (Eq.mpr (t_flow_Conn (fl s) (fl c) v _) ?_)
  refine (c_parts hs hc v).mono ?_
  rintro r v1 ⟨rfl, h1⟩
  exact ⟨s, c, true, rfl, rfl, h1⟩
def may (s c : Int) : Int := if 0 > (if c < s then c else s) then 0 else (if c < s then c else s)
theorem c_May {s c : Int} (hs : In s) (hc : In c) (v : World) : CallsV Try.prog 17 #[wz s c] v fun r v' => r = .int .i64 (may s c) ∧ Pad v v' := by
  refine fn_sound (E := E) Try.func17 (Eq.mpr (t_flow_May (fl s) (fl c) v _) ?_)
  refine (c_Stream hs hc v).mono ?_
  rintro r v1 ⟨rfl, h1⟩
  refine ⟨s, rfl, ?_⟩
  refine (c_Conn hs hc v1).mono ?_
  rintro r v2 ⟨rfl, h2⟩
  exact ⟨c, rfl, rfl, h1.trans h2⟩
def cutF (n : Int) : Int := F_flow_cut n
theorem cut_in {n : Int} (h : In n) : F_flow_cut n = n := by unfold In at h; unfold F_flow_cut; split <;> split at * <;> omega
theorem cut_range (n : Int) : In (F_flow_cut n) := by unfold In F_flow_cut; split <;> split at * <;> omega
theorem c_Windows (s c : Int) (v : World) : CallsV Try.prog 15 #[.int .i64 s, .int .i64 c] v fun r v' => r = wz (F_flow_cut s) (F_flow_cut c) ∧ Pad v v' :=
  (c_flow_Windows s c v).mono fun r v' h => ⟨h.1.trans rfl, h.2⟩
theorem c_first12 (v : World) : CallsV Try.prog 14 #[] v fun r v' => r = .bool true ∧ Pad v v' := by
  have i10 : In 10 := by unfold In; omega
  have i4 : In 4 := by unfold In; omega
  refine fn_sound (E := E) Try.func14 (Eq.mpr (t_wlvlaw12_first v _) ?_)
  rw [c10, c4]
  refine (c_Windows 10 4 v).mono ?_
  rintro r v1 ⟨rfl, h1⟩
  rw [cut_in i10, cut_in i4]
  refine ⟨fl 10, fl 4, rfl, ?_⟩
  rw [o_eq i10.two i10.two, o_eq i4.two i4.two]
  refine bcase_of (fun _ => ?_) (fun h => by simp at h)
  refine (c_May i10 i4 v1).mono ?_
  rintro r v2 ⟨rfl, h2⟩
  refine ⟨4, rfl, ?_⟩
  refine bcase_of (fun _ => ?_) (fun h => by simp at h)
  refine (c_Stream i10 i4 v2).mono ?_
  rintro r v3 ⟨rfl, h3⟩
  refine ⟨10, rfl, ?_⟩
  refine bcase_of (fun _ => ?_) (fun h => by simp at h)
  refine (c_Conn i10 i4 v3).mono ?_
  rintro r v4 ⟨rfl, h4⟩
  exact ⟨4, rfl, rfl, ((h1.trans h2).trans h3).trans h4⟩
def spendF (s c n : Int) : Nat × Nat × Int := if 0 ≤ n ∧ n ≤ may s c then (fl (s - n), fl (c - n), 0) else (0, 0, 1)
theorem may_le {s c n : Int} (h0 : 0 ≤ n) (h : n ≤ may s c) : n = 0 ∨ (n ≤ s ∧ n ≤ c) := by
  unfold may at h; split at h <;> split at * <;> omega
theorem c_Spend {s c : Int} (hs : In s) (hc : In c) (n : Int) (v : World) : CallsV Try.prog 16 #[wz s c, .int .i64 n] v fun r v' => r = .tuple #[.complex .f64 (spendF s c n).1 (spendF s c n).2.1, .int .i64 (spendF s c n).2.2] ∧ Pad v v' := by
  refine fn_sound (E := E) Try.func16 (Eq.mpr (t_flow_Spend (fl s) (fl c) n v _) ?_)
  refine (c_parts hs hc v).mono ?_
  rintro r v1 ⟨rfl, h1⟩
  refine ⟨s, c, true, rfl, ?_⟩
  refine bcase_of (fun h => ?_) (fun h => ?_)
  · have : ¬ (0 ≤ n ∧ n ≤ may s c) := by simp at h; omega
    simp only [spendF, if_neg this]
    exact ⟨trivial, h1⟩
  refine (c_May hs hc v1).mono ?_
  rintro r v2 ⟨rfl, h2⟩
  refine ⟨may s c, rfl, ?_⟩
  refine bcase_of (fun h' => ?_) (fun h' => ?_)
  · have : ¬ (0 ≤ n ∧ n ≤ may s c) := by simp at h'; omega
    simp only [spendF, if_neg this]
    exact ⟨trivial, h1.trans h2⟩
  · have hn : 0 ≤ n ∧ n ≤ may s c := by simp at h h'; omega
    have hm := may_le hn.1 hn.2
    unfold In at hs hc
    simp only [spendF, if_pos hn]
    exact ⟨fl (s - n), fl (c - n), fl_sub (by omega) (by omega) (by omega), fl_sub (by omega) (by omega) (by omega), rfl, h1.trans h2⟩
def fault3 (q : Bool) : Nat × Nat × Bool × Bool × Int := (0, 0, true, q, 3)
def grantF (s c a b : Int) : Nat × Nat × Bool × Bool × Int := if c + b > 2147483647 then fault3 true else if s + a > 2147483647 then fault3 false else (fl (s + a), fl (c + b), false, false, 0)
def encF : Nat × Nat × Bool × Bool × Int → Value | (x, y, p, q, i) => .tuple #[.complex .f64 x y, .agg #[.bool p, .bool q, .int .i64 i]]
theorem c_Grant {s c a b : Int} (hs : In s) (hc : In c) (ha : In a) (hb : In b) (h0 : 0 ≤ a) (h1 : 0 ≤ b) (v : World) : CallsV Try.prog 25 #[wz s c, .int .i64 a, .int .i64 b] v fun r v' => r = encF (grantF s c a b) ∧ Pad v v' := by
  refine fn_sound (E := E) Try.func25 (Eq.mpr (t_flow_Grant (fl s) (fl c) a b v _) ?_)
  refine (c_parts hs hc _).mono ?_
  rintro r v1 ⟨rfl, e1⟩
  refine ⟨s, c, true, rfl, ?_⟩
  unfold In at hs hc ha hb
  refine bcase_of (fun h => by exfalso; simp at h; omega) (fun _ => ?_)
  refine ⟨fl (s + a), fl (c + b), fl_add (by omega) (by omega) (by omega), fl_add (by omega) (by omega) (by omega), ?_⟩
  rw [cM, o_gt (by unfold In2; omega) (by unfold In2; omega), o_gt (by unfold In2; omega) (by unfold In2; omega)]
  have e1' : Pad v v1 := (Pad.refl : Pad v v).hv.trans e1
  refine bcase_of (fun h => ?_) (fun h => ?_)
  · refine (c_flow_fault 3 true v1).mono ?_
    rintro r v3 ⟨rfl, e3⟩
    refine ⟨0, 0, true, true, 3, rfl, ?_, e1'.trans e3⟩
    rw [grantF, if_pos (by simpa using h)]
    rfl
  refine bcase_of (fun h' => ?_) (fun h' => ?_)
  · refine (c_flow_fault 3 false v1).mono ?_
    rintro r v3 ⟨rfl, e3⟩
    refine ⟨0, 0, true, false, 3, rfl, ?_, e1'.trans e3⟩
    rw [grantF, if_neg (by simpa using h), if_pos (by simpa using h')]
    rfl
  · refine ⟨?_, e1'⟩
    rw [grantF, if_neg (by simpa using h), if_neg (by simpa using h')]
    rfl
def shiftF (s c d : Int) : Nat × Nat × Bool × Bool × Int := if s + d > 2147483647 then fault3 true else (fl (F_flow_cut (s + d)), fl c, false, false, 0)
theorem c_Shift {s c d : Int} (hs : In s) (hc : In c) (hd : In d) (v : World) : CallsV Try.prog 26 #[wz s c, .int .i64 d] v fun r v' => r = encF (shiftF s c d) ∧ Pad v v' := by
  refine fn_sound (E := E) Try.func26 (Eq.mpr (t_flow_Shift (fl s) (fl c) d v _) ?_)
  refine (c_parts hs hc _).mono ?_
  rintro r v1 ⟨rfl, e1⟩
  refine ⟨s, c, true, rfl, ?_⟩
  refine bcase_of (fun h => by cases h) (fun _ => ?_)
  refine (c_flow_cut d v1).mono ?_
  rintro r v3 ⟨rfl, e3⟩
  rw [cut_in hd]
  refine ⟨d, rfl, ?_⟩
  refine bcase_of (fun h => by simp at h) (fun _ => ?_)
  refine (c_Stream hs hc v3).mono ?_
  rintro r v5 ⟨rfl, e5⟩
  refine ⟨s, rfl, ?_⟩
  have hw : IntKind.i64.wrap (s + d) = s + d := wr (by unfold In at hs hd; omega)
  rw [hw]
  have p5 : Pad v v5 := (((Pad.refl : Pad v v).hv.trans e1).trans e3).trans e5
  refine bcase_of (fun h => ?_) (fun h => ?_)
  · refine (c_flow_fault 3 true v5).mono ?_
    rintro r v6 ⟨rfl, e6⟩
    refine ⟨0, 0, true, true, 3, rfl, ?_, p5.trans e6⟩
    rw [shiftF, if_pos (by simpa using h)]
    rfl
  · refine (c_Stream hs hc v5).mono ?_
    rintro r v7 ⟨rfl, e7⟩
    refine ⟨s, rfl, ?_⟩
    refine (c_Conn hs hc v7).mono ?_
    rintro r v8 ⟨rfl, e8⟩
    refine ⟨c, rfl, ?_⟩
    rw [hw]
    refine (c_Windows (s + d) c v8).mono ?_
    rintro r v9 ⟨rfl, e9⟩
    rw [cut_in hc]
    refine ⟨_, _, rfl, ?_, ((p5.trans e7).trans e8).trans e9⟩
    rw [shiftF, if_neg (by simpa using h)]
    rfl
end Go.Proofs.Ytnlekdpnjphmfaa
