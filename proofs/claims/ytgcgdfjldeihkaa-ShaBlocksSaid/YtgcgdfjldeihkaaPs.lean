/- Pure evaluation of the model's code: operators, conversions, lengths. -/
import Derived.Test.YtgcgdfjldeihkaaPq
namespace Go.Proofs.Ytgcgdfjldeihkaa
namespace Pv
set_option linter.unusedVariables false
section
variable {E : Env} {F : Fr} {g : Gh} {st : PSt} {a : Act} {w : World} {o : Oper} {R : Type} {C : Upd → Option R} {r : R} {tmf : Nat → Value} {O : Tok → Bool} {P : Program}
theorem eqGuard_int (op : BinOp) (t : TypeId) (x y : Operand) (k : IntKind) (n : Int) (v : Value) : (eqGuard op t x y (.int k n) v).run P w = .ok () w := by cases op <;> rfl
theorem eqGuard_bool (op : BinOp) (t : TypeId) (x y : Operand) (b : Bool) (v : Value) : (eqGuard op t x y (.bool b) v).run P w = .ok () w := by cases op <;> rfl
theorem eqGuard_string (op : BinOp) (t : TypeId) (x y : Operand) (s : ByteArray) (v : Value) : (eqGuard op t x y (.string s) v).run P w = .ok () w := by cases op <;> rfl
theorem eqGuard_iface (op : BinOp) (t : TypeId) (x y : Operand) (u : TypeId) (q : Value) (v : Value) : (eqGuard op t x y (.iface u q) v).run P w = .ok () w := by cases op <;> rfl
theorem eqGuard_nil (op : BinOp) (t : TypeId) (x : Operand) (yv : Value) : (eqGuard op t x (.const yv) .nilIface .nilIface).run P w = .ok () w := by cases op <;> cases x <;> rfl
theorem run_bin {op : BinOp} {t : TypeId} {x y : Operand} {uy : TypeId} (hop : o.op = .binOp op t x y uy) (hg : (eqGuard op t x y (a.eval x) (a.eval y)).run P w = .ok () w) {v : Value} (hb : (binOp op t (a.eval x) (a.eval y)).run P w = .ok v w) :
    (execOp a.eval o).run P w = .ok (.value v) w := by
  simp [execOp, hop, hg, hb]
/-- What a pure operator yields. -/
def Yld (P : Program) (F : Fr) (g : Gh) (w : World) (O : Tok → Bool) (tmf : Nat → Value) (s : Sem Value) (C : PV → Option R) (r : R) : Prop := ∃ v p, s.run P w = .ok v w ∧ RelP F g w O tmf v p ∧ (∀ t want ag ls, p ≠ .spec t want ag ls) ∧ C p = some r
theorem yld_int {s : Sem Value} {C : PV → Option R} {k : IntKind} {n : Int} (hs : s.run P w = .ok (.int k n) w) (hn : (Lit.int k n).wf = true) (hC : C (pint k n) = some r) : Yld P F g w O tmf s C r :=
  ⟨_, _, hs, mk_int hn, (fun _ _ _ _ e => by cases e), hC⟩
theorem yld_bool {s : Sem Value} {C : PV → Option R} {b : Bool} (hs : s.run P w = .ok (.bool b) w) (hC : C (pbool b) = some r) : Yld P F g w O tmf s C r :=
  ⟨_, _, hs, mk_bool, (fun _ _ _ _ e => by cases e), hC⟩
theorem yld_binI {op : BinOp} {t : TypeId} {k : IntKind} {x y : Int} {C : PV → Option R} (hx : (Lit.int k x).wf = true) (h : binI op k x y C = some r) : Yld P F g w O tmf (binOp op t (.int k x) (.int k y)) C r := by
  cases op <;> simp only [binI] at h
  case add => exact yld_int (by simp [binOp, Op.intArith]) (wf_wrap _ _) h
  case sub => exact yld_int (by simp [binOp, Op.intArith]) (wf_wrap _ _) h
  case mul => exact yld_int (by simp [binOp, Op.intArith]) (wf_wrap _ _) h
  case quo =>
    obtain ⟨hc, h⟩ := chk_some h
    have hne : ¬ y = 0 := by simpa using hc
    exact yld_int (by simp [binOp, Op.intDiv, hne]) (wf_wrap _ _) h
  case rem =>
    obtain ⟨hc, h⟩ := chk_some h
    have hne : ¬ y = 0 := by simpa using hc
    exact yld_int (by simp [binOp, Op.intDiv, hne]) (tmod_wf hx) h
  case and => exact yld_int (by simp [binOp, intBits_and]) (wf_bits _ _ _ _) h
  case or => exact yld_int (by simp [binOp, intBits_or]) (wf_bits _ _ _ _) h
  case xor => exact yld_int (by simp [binOp, intBits_xor]) (wf_bits _ _ _ _) h
  case andNot => exact yld_int (by simp [binOp, intBits_andNot]) (wf_bits _ _ _ _) h
  case eql => exact yld_bool (by simp [binOp, Op.intCmp]) h
  case neq => exact yld_bool (by simp [binOp, Op.intCmp]) h
  case lss => exact yld_bool (by simp [binOp, Op.intCmp]) h
  case leq => exact yld_bool (by simp [binOp, Op.intCmp]) h
  case gtr => exact yld_bool (by simp [binOp, Op.intCmp]) h
  case geq => exact yld_bool (by simp [binOp, Op.intCmp]) h
  all_goals cases h
theorem yld_shI {op : BinOp} {t : TypeId} {k k' : IntKind} {x y : Int} {C : PV → Option R} (hx : (Lit.int k x).wf = true) (h : shI op k x y C = some r) : Yld P F g w O tmf (binOp op t (.int k x) (.int k' y)) C r := by
  cases op <;> simp only [shI] at h
  case shl =>
    obtain ⟨hc, h⟩ := chk_some h
    have hne : ¬ y < 0 := by have : 0 ≤ y := by simpa using hc
                             omega
    exact yld_int (by simp [binOp, Op.shift, hne]) (wf_wrap _ _) h
  case shr =>
    obtain ⟨hc, h⟩ := chk_some h
    have hne : ¬ y < 0 := by have : 0 ≤ y := by simpa using hc
                             omega
    exact yld_int (by simp [binOp, Op.shift, hne]) (fdiv_pow_wf _ hx) h
  all_goals cases h
theorem yld_binS {op : BinOp} {t : TypeId} {x y : ByteArray} {C : PV → Option R} (h : binS op (bytesL x) (bytesL y) C = some r) : Yld P F g w O tmf (binOp op t (.string x) (.string y)) C r := by
  cases op <;> simp only [binS] at h
  case add =>
    obtain ⟨hc, h⟩ := chk_some h
    have hle : x.size + y.size ≤ maxLen := by rw [Nat.ble_eq, bytes_len, bytes_len] at hc; exact hc
    refine ⟨.string (x ++ y), pstr (bytesL x ++ bytesL y), ?_, mk_str (bytes_append x y) (by simpa using hle), (fun _ _ _ _ e => by cases e), h⟩
    have : ¬ ((x.size + y.size : Nat) : Int) > IntKind.i64.max := by
      unfold maxLen at hle
      simp [IntKind.max, IntKind.signed, IntKind.bits]
      omega
    simp only [binOp, Op.stringOp]
    rw [if_neg this]
    rfl
  case eql => exact yld_bool (by simp [binOp, Op.stringOp, ← bytes_eq]) h
  case neq => exact yld_bool (by simp [binOp, Op.stringOp, ← bytes_eq]) h
  case lss => exact yld_bool (by simp [binOp, Op.stringOp, ← bytes_less]) h
  case leq => exact yld_bool (by simp [binOp, Op.stringOp, ← bytes_less, ← bytes_eq]) h
  case gtr => exact yld_bool (by simp [binOp, Op.stringOp, ← bytes_less, ← bytes_eq]) h
  case geq => exact yld_bool (by simp [binOp, Op.stringOp, ← bytes_less]) h
  all_goals cases h
theorem eqFs_run {f : TypeId → List Leaf → List Leaf → Option Bool} {d : Nat}
    (hf : ∀ t xs ys q, f t xs ys = some q → (P.underlying t).isSome = true ∧ ∀ u v, RelV F g w O u (isAg P t) xs → RelV F g w O v (isAg P t) ys → (Op.equalIn d t u v).run P w = .ok q w) {xs ys : List Leaf} {cx cy : Array Value}
    (hx : RepLs F g w O xs cx.toList) (hy : RepLs F g w O ys cy.toList) : ∀ (l : List Field) (q : Bool), eqFs P f xs ys l = some q → (Op.eqFields d cx cy l).run P w = .ok q w
  | [], q, h => by
    simp only [eqFs, Option.some.injEq] at h
    subst h
    simp [Op.eqFields]
  | fd :: fs, q, h => by
    unfold eqFs at h
    unfold Op.eqFields
    cases hnm : fd.name == "_" with
    | true =>
      have e : fd.name = "_" := by simpa using hnm
      simp only [hnm] at h
      rw [if_neg (by simp [e])]
      exact eqFs_run hf hx hy fs q h
    | false =>
      have e : fd.name ≠ "_" := by simpa using hnm
      simp only [hnm] at h
      rw [if_pos e]
      split at h
      · rename_i la lb ha hb
        split at h
        · rename_i r1 q1 hr hq
          simp only [Option.some.injEq] at h
          obtain ⟨hu, hrun⟩ := hf _ _ _ _ hr
          obtain ⟨u, hpu, hru⟩ := part_rel (P := P) hu hx ha
          obtain ⟨v, hpv, hrv⟩ := part_rel (P := P) hu hy hb
          simp only [Sem.run_bind, hpu, hpv, hrun u v hru hrv, Result.andThen_ok]
          cases r1 with
          | false => simp at h ⊢; exact h
          | true =>
            simp only [Bool.true_and] at h
            subst h
            simp only [Bool.not_true, Bool.false_eq_true, if_false]
            exact eqFs_run hf hx hy fs q1 hq
        · cases h
      · cases h
theorem relV_one {u : Value} {ag : Bool} {t : Ty} {x : t.D} (hag : ag = false) (h : RelV F g w O u ag [.d t x]) : RepD w g.C t x [u] := by
  subst hag
  obtain ⟨cs, h1, h2⟩ := h
  have h2' : cs = [u] := h2
  rw [h2'] at h1
  exact repLs_single.1 h1
theorem eqT_run : ∀ (n d : Nat), n ≤ d → ∀ (t : TypeId) (xs ys : List Leaf) (q : Bool), eqT P n t xs ys = some q → (P.underlying t).isSome = true ∧ ∀ u v, RelV F g w O u (isAg P t) xs → RelV F g w O v (isAg P t) ys → (Op.equalIn d t u v).run P w = .ok q w
  | 0, _, _, _, _, _, _, h => by cases h
  | n + 1, 0, hd, _, _, _, _, _ => by omega
  | n + 1, d + 1, hd, t, xs, ys, q, h => by
    unfold eqT at h
    split at h
    · rename_i k0 hu
      have hag : isAg P t = false := by unfold isAg; rw [hu]
      refine ⟨by rw [hu]; rfl, fun u v ru rv => ?_⟩
      split at h
      · rename_i k x k' y
        split at h
        · rename_i hk
          have := ikEq_eq hk
          subst this
          simp only [Option.some.injEq] at h
          have e1 : [u] = [.int k x] := (relV_one hag ru).1
          have e2 : [v] = [.int k y] := (relV_one hag rv).1
          simp only [List.cons.injEq, and_true] at e1 e2
          subst e1; subst e2
          rw [run_equalIn_int w d t k k0 x y hu, ← h]
          rfl
        · cases h
      · cases h
    · rename_i hu
      have hag : isAg P t = false := by unfold isAg; rw [hu]
      refine ⟨by rw [hu]; rfl, fun u v ru rv => ?_⟩
      split at h
      · rename_i x y
        injection h with h
        have e1 : [u] = [.bool x] := relV_one hag ru
        have e2 : [v] = [.bool y] := relV_one hag rv
        simp only [List.cons.injEq, and_true] at e1 e2
        subst e1; subst e2
        rw [run_equalIn_bool' w d t x y hu, ← h]
        cases x <;> cases y <;> rfl
      · cases h
    · rename_i hu
      have hag : isAg P t = false := by unfold isAg; rw [hu]
      refine ⟨by rw [hu]; rfl, fun u v ru rv => ?_⟩
      split at h
      · rename_i x y
        injection h with h
        obtain ⟨s1, e1, b1, _⟩ := relV_one hag ru
        obtain ⟨s2, e2, b2, _⟩ := relV_one hag rv
        simp only [List.cons.injEq, and_true] at e1 e2
        subst e1; subst e2
        rw [run_equalIn_string w d t s1 s2 hu, ← h, ← b1, ← b2]
        unfold eqL
        rw [bytes_eq]
      · cases h
    · rename_i fs hu
      have hag : isAg P t = true := by unfold isAg; rw [hu]
      refine ⟨by rw [hu]; rfl, fun u v ru rv => ?_⟩
      rw [hag] at ru rv
      split at h
      · cases h
      · rename_i hs
        obtain ⟨cx, hx, e1⟩ := ru
        obtain ⟨cy, hy, e2⟩ := rv
        have e1' : u = .agg ⟨cx⟩ := e1
        have e2' : v = .agg ⟨cy⟩ := e2
        subst e1'; subst e2'
        have hfo : P.fieldsOf t = fs := by simp [Program.fieldsOf, hu]
        rw [run_equalIn_struct w d t ⟨cx⟩ ⟨cy⟩ (by rw [hfo]; exact hu) hs, hfo]
        exact eqFs_run (fun t xs ys q hq => eqT_run n d (by omega) t xs ys q hq) hx hy _ q h
    · cases h
theorem go_binOp (h : MRel F g st (tm a) w) {op : BinOp} {t : TypeId} {x y : Operand} {uy : TypeId} (hop : o.op = .binOp op t x y uy) (hv : pvU E o st (evK st.kn st.φ) C = some r) : Goes E F g st a w o C r := by
  simp only [pvU, hop] at hv
  have hx := ev_rel h x
  have hy := ev_rel h y
  have fin : ∀ (hg : (eqGuard op t x y (a.eval x) (a.eval y)).run E.P w = .ok () w), Yld E.P F g w st.O (tm a) (binOp op t (a.eval x) (a.eval y)) (fun p => C (Upd.v p)) r → Goes E F g st a w o C r := fun hg ⟨v, p, h1, h2, h3, h4⟩ =>
    goes_same h (run_bin hop hg h1) h2 h3 h4
  split at hv
  · rename_i xs ys e1 e2
    rw [e1] at hx; rw [e2] at hy
    obtain ⟨cx, rx, hx'⟩ := hx
    obtain ⟨cy, ry, hy'⟩ := hy
    have ex : a.eval x = .agg ⟨cx⟩ := hx'
    have ey : a.eval y = .agg ⟨cy⟩ := hy'
    split at hv
    · rename_i q hag hgt heq
      obtain ⟨hu, hrun⟩ := eqT_run (F := F) (g := g) (w := w) (O := st.O) 20 10000 (by omega) _ _ _ _ heq
      have hg : (eqGuard op t x y (a.eval x) (a.eval y)).run E.P w = .ok () w := by rw [ex, ey]; exact run_eqGuard_agg w op t x y ⟨cx⟩ ⟨cy⟩ hgt
      have hq := hrun (.agg ⟨cx⟩) (.agg ⟨cy⟩) (by rw [hag]; exact ⟨cx, rx, rfl⟩) (by rw [hag]; exact ⟨cy, ry, rfl⟩)
      refine fin hg ?_
      rw [ex, ey]
      cases op <;> simp only at hv
      case eql => exact yld_bool (by rw [run_eql_struct, hq]; rfl) hv
      case neq => exact yld_bool (by rw [run_neq_struct, hq]; rfl) hv
      all_goals cases hv
    · cases hv
  · rename_i b e1 e2
    rw [e1] at hx; rw [e2] at hy
    have ey : a.eval y = .nilIface := hy
    obtain ⟨u, hu1, hu2⟩ := rel_leaf.1 hx
    have ex : a.eval x = u := by simpa using hu1
    split at hv
    · rename_i ms hc hu
      have hyc : ∃ v, y = .const v := by cases y <;> first | exact ⟨_, rfl⟩ | cases hc
      obtain ⟨yv, rfl⟩ := hyc
      have hm : E.P.underlying t = some (.interface (E.P.methodsAt t)) := by rw [hu]; simp [Program.methodsAt, hu]
      rcases hu2 with ⟨hb, rfl⟩ | ⟨hb, tu, vu, rfl⟩
      · refine fin (by rw [ex, ey]; exact eqGuard_nil op t x yv) ?_
        rw [ex, ey]
        cases op <;> simp only at hv
        case eql => exact yld_bool (run_eql_nil_nil w t hm) (by rw [hb] at hv; exact hv)
        case neq => exact yld_bool (run_neq_nil_nil w t hm) (by rw [hb] at hv; exact hv)
        all_goals cases hv
      · refine fin (by rw [ex]; exact eqGuard_iface op t x _ tu vu _) ?_
        rw [ex, ey]
        cases op <;> simp only at hv
        case eql => exact yld_bool (run_eql_held_nil w t tu vu hm) (by rw [hb] at hv; exact hv)
        case neq => exact yld_bool (run_neq_held_nil w t tu vu hm) (by rw [hb] at hv; exact hv)
        all_goals cases hv
    · cases hv
  · rename_i p q e1 e2
    rw [e1] at hx; rw [e2] at hy
    have ex := rel_bool hx
    have ey := rel_bool hy
    split at hv
    · rename_i hu
      have key : ∀ b c : Bool, (Op.equal t (.bool b) (.bool c)).run E.P w = .ok (bEq b c) w := fun b c => by
        have e : (Op.equal t (.bool b) (.bool c)).run E.P w = .ok (b == c) w := run_equalIn_bool' w 9999 t b c hu
        rw [e]
        cases b <;> cases c <;> rfl
      have hq := key p q
      refine fin (by rw [ex]; exact eqGuard_bool ..) ?_
      rw [ex, ey]
      cases op <;> simp only at hv
      case eql => exact yld_bool (by simp [binOp, hq]) hv
      case neq => exact yld_bool (by simp [binOp, hq]) hv
      all_goals cases hv
    · cases hv
  · unfold binP at hv
    split at hv
    · rename_i k x1 k' y1 e1 e2
      rw [e1] at hx; rw [e2] at hy
      obtain ⟨ex, wx⟩ := rel_int hx
      obtain ⟨ey, wy⟩ := rel_int hy
      refine fin (by rw [ex]; exact eqGuard_int ..) ?_
      rw [ex, ey]
      split at hv
      · exact yld_shI wx hv
      · exact yld_shI wx hv
      · split at hv
        · rename_i hk
          have := ikEq_eq hk
          subst this
          exact yld_binI wx hv
        · cases hv
    · rename_i x1 y1 e1 e2
      rw [e1] at hx; rw [e2] at hy
      obtain ⟨s1, ex, b1, _⟩ := rel_str hx
      obtain ⟨s2, ey, b2, _⟩ := rel_str hy
      refine fin (by rw [ex]; exact eqGuard_string ..) ?_
      rw [ex, ey]
      rw [← b1, ← b2] at hv
      exact yld_binS hv
    · cases hv
theorem run_xor (k : IntKind) (n : Int) : (Op.unary .xor (.int k n)).run P w = .ok (.int k (bits .xor k (cond k.signed (-1) k.max) n)) w := by
  have : (if k.signed = true then (-1 : Int) else k.max) = cond k.signed (-1) k.max := by cases k.signed <;> rfl
  show (Op.intBits .xor k (if k.signed = true then -1 else k.max) n).run P w = _
  rw [this, intBits_xor]
  rfl
theorem go_unOp (h : MRel F g st (tm a) w) {op : UnOp} {t : TypeId} {x : Operand} (hop : o.op = .unOp op t x) (hv : pvU E o st (evK st.kn st.φ) C = some r) : Goes E F g st a w o C r := by
  simp only [pvU, hop] at hv
  have hx := ev_rel h x
  split at hv
  · rename_i p hp
    unfold unP at hp
    split at hp
    · rename_i b e1
      rw [e1] at hx
      have ex := rel_bool hx
      injection hp with hp
      subst hp
      exact goes_same h (v := .bool (!b)) (p := pbool (!b)) (by simp [execOp, hop, ex, Op.unary]) mk_bool (fun _ _ _ _ e => by cases e) hv
    · rename_i k n e1
      rw [e1] at hx
      obtain ⟨ex, wx⟩ := rel_int hx
      injection hp with hp
      subst hp
      exact goes_same h (v := .int k (negI k n)) (p := pint k (negI k n)) (by simp [execOp, hop, ex, Op.unary, Op.intArith, negI]) (mk_int (wf_wrap _ _)) (fun _ _ _ _ e => by cases e) hv
    · rename_i k n e1
      rw [e1] at hx
      obtain ⟨ex, wx⟩ := rel_int hx
      injection hp with hp
      subst hp
      refine goes_same h (v := .int k (bits .xor k (cond k.signed (-1) k.max) n)) (p := pint k (bits .xor k (cond k.signed (-1) k.max) n)) ?_ (mk_int (wf_bits _ _ _ _)) (fun _ _ _ _ e => by cases e) hv
      have hr := run_xor (P := E.P) (w := w) k n
      simp only [execOp, hop, ex, Sem.run_bind]
      rw [hr]
      rfl
    · cases hp
  · cases hv
theorem strP_rel {tmf : Nat → Value} {u : Value} {p : PV} {l : List Int} (h : strP p = some l) (hr : RelP F g w O tmf u p) : ∃ s : ByteArray, u = .string s ∧ bytesL s = l ∧ s.size ≤ maxLen := by
  unfold strP at h
  split at h
  · injection h with h
    subst h
    exact rel_str hr
  · cases h
theorem tailP_rel {tmf : Nat → Value} {u : Value} {p : PV} {e : Ty} {l : List e.D} (h : tailP e p = some l) (hr : RelP F g w O tmf u p) :
    (∃ s : ByteArray, u = .string s ∧ e = .int .u8 ∧ HEq (bytesL s) l ∧ s.size ≤ maxLen) ∨ RepD w g.C (.sl e) l [u] := by
  unfold tailP at h
  split at h
  · rename_i l' hl'
    obtain ⟨he, hl⟩ := castD_some (t := .sl (.int .u8)) (t' := .sl e) h
    obtain ⟨s, hs, hb, hz⟩ := strP_rel hl' hr
    injection he with he
    subst he
    have hl2 : l' = l := hl
    exact .inl ⟨s, hs, rfl, heq_of_eq (hb.trans hl2), hz⟩
  · split at h
    · rename_i e' l' hl'
      obtain ⟨he, hl⟩ := castD_some (t := .sl e') (t' := .sl e) h
      injection he with he
      subst he
      have hl2 : l' = l := hl
      subst hl2
      exact .inr (slP_rep hl' hr)
    · split at h
      · injection h with h
        subst h
        have hu : u = .slice none 0 0 := hr
        rw [hu]
        exact .inr ⟨none, 0, 0, rfl, rfl, Nat.le_refl _, by unfold maxLen; omega, fun i x hx => by simp at hx⟩
      · cases h
theorem bltP_one {b : Builtin} {args : List Operand} {ts : List TypeId} {ev : Operand → PV} (hv : bltP E o b args ts st ev C = some r) (hb : b = .len) : ∃ x t p, args = [x] ∧ ts = [t] ∧ lenP E.P t (ev x) = some p ∧ C (Upd.v p) = some r := by
  unfold bltP at hv
  split at hv
  · rename_i x t
    subst hb
    simp only at hv
    split at hv
    · rename_i p hp; exact ⟨x, t, p, rfl, rfl, hp, hv⟩
    · cases hv
  · subst hb; cases hv
  · cases hv
theorem bltP_mm {b : Builtin} {args : List Operand} {ts : List TypeId} {ev : Operand → PV} (hv : bltP E o b args ts st ev C = some r) (hb : b = .min ∨ b = .max) :
    ∃ x y t u p, args = [x, y] ∧ ts = [t, u] ∧ mmP (match b with | .min => minI | _ => maxI) (ev x) (ev y) = some p ∧ C (Upd.v p) = some r := by
  unfold bltP at hv
  split at hv
  · rcases hb with rfl | rfl <;> cases hv
  · rename_i x y t u
    rcases hb with rfl | rfl
    · simp only at hv
      split at hv
      · rename_i p hp; exact ⟨x, y, t, u, p, rfl, rfl, hp, hv⟩
      · cases hv
    · simp only at hv
      split at hv
      · rename_i p hp; exact ⟨x, y, t, u, p, rfl, rfl, hp, hv⟩
      · cases hv
  · cases hv
theorem run_builtin {b : Builtin} {args : Array Operand} {ts : Array TypeId} {f : Operand → Value} (hop : o.op = .call { callee := .builtin b, args := args, argTypes := ts }) :
    ∃ cs, (execOp f o).run P w = (builtin b ts o.type cs (args.map f)).run P w := by
  refine ⟨args.map fun | .const _ => true | _ => false, ?_⟩
  unfold execOp
  rw [hop]
  simp only [resolve, Sem.run_bind, Sem.run_pure, Result.andThen_ok, invoke]
  rfl
theorem go_len (h : MRel F g st (tm a) w) {args : Array Operand} {ts : Array TypeId} (hop : o.op = .call { callee := .builtin .len, args := args, argTypes := ts }) (hv : pvU E o st (evK st.kn st.φ) C = some r) : Goes E F g st a w o C r := by
  simp only [pvU, hop] at hv
  obtain ⟨x, t, p, ea, et, hp, hv⟩ := bltP_one hv rfl
  obtain rfl : args = #[x] := by cases args; simp_all
  obtain rfl : ts = #[t] := by cases ts; simp_all
  have hx := ev_rel h x
  unfold lenP at hp
  split at hp
  · rename_i hu
    split at hp
    · rename_i l hl
      injection hp with hp
      subst hp
      obtain ⟨s, hs, hb, hz⟩ := strP_rel hl hx
      have hlen : l.length = s.size := by rw [← hb, bytes_len]
      refine goes_same h (v := .int .i64 (l.length : Int)) (p := pint .i64 (l.length : Int)) ?_ (mk_int (len_wf (by rw [hlen]; exact hz))) (fun _ _ _ _ e => by cases e) hv
      obtain ⟨cs, hr⟩ := run_builtin (P := E.P) (w := w) (f := a.eval) hop
      rw [hr]
      simp [hs, builtin, Builtin.len_, hlen, goInt, run_underlying hu]
    · cases hp
  · rename_i e hu
    split at hp
    · rename_i k n tt hrow
      injection hp with hp
      subst hp
      rw [hrow] at hx
      obtain ⟨cap, hxv, hx1, hx2, _⟩ := hx
      refine goes_same h (v := .int .i64 (n : Int)) (p := pint .i64 (n : Int)) ?_ (mk_int (len_wf (by omega))) (fun _ _ _ _ e => by cases e) hv
      obtain ⟨cs, hr⟩ := run_builtin (P := E.P) (w := w) (f := a.eval) hop
      rw [hr]
      simp [hxv, builtin, Builtin.len_, goInt, run_underlying hu]
    split at hp
    · rename_i ty l hl
      injection hp with hp
      subst hp
      obtain ⟨sa, sn, sc, e1, e2, e3, e4, _⟩ := slP_rep hl (norm_rel (P := E.P) (ty := t) h.blk0 hx)
      have hxv : a.eval x = .slice sa sn sc := by simpa using e1
      have hlen : l.length = sn := e2
      refine goes_same h (v := .int .i64 (l.length : Int)) (p := pint .i64 (l.length : Int)) ?_ (mk_int (len_wf (by rw [hlen]; omega))) (fun _ _ _ _ e => by cases e) hv
      obtain ⟨cs, hr⟩ := run_builtin (P := E.P) (w := w) (f := a.eval) hop
      rw [hr]
      simp [hxv, builtin, Builtin.len_, hlen, goInt, run_underlying hu]
    · cases hp
  · cases hp
theorem minI_wf {k : IntKind} {m n : Int} (hm : (Lit.int k m).wf = true) (hn : (Lit.int k n).wf = true) : (Lit.int k (minI m n)).wf = true := by
  unfold minI; cases decide (n < m) <;> assumption
theorem maxI_wf {k : IntKind} {m n : Int} (hm : (Lit.int k m).wf = true) (hn : (Lit.int k n).wf = true) : (Lit.int k (maxI m n)).wf = true := by
  unfold maxI; cases decide (n > m) <;> assumption
theorem minI_if (m n : Int) : minI m n = if n < m then n else m := by unfold minI; by_cases hd : n < m <;> simp [hd]
theorem maxI_if (m n : Int) : maxI m n = if n > m then n else m := by unfold maxI; by_cases hd : n > m <;> simp [hd]
theorem run_min {x y : Operand} {ts : Array TypeId} {f : Operand → Value} {k : IntKind} {m n : Int} (hop : o.op = .call { callee := .builtin .min, args := #[x, y], argTypes := ts }) (ex : f x = .int k m) (ey : f y = .int k n) : (execOp f o).run P w = .ok (.value (.int k (minI m n))) w := by
  rw [minI_if]
  obtain ⟨cs, hr⟩ := run_builtin (P := P) (w := w) (f := f) hop
  rw [hr]
  simp [ex, ey, builtin, Builtin.min_, Builtin.min2]
theorem run_max {x y : Operand} {ts : Array TypeId} {f : Operand → Value} {k : IntKind} {m n : Int} (hop : o.op = .call { callee := .builtin .max, args := #[x, y], argTypes := ts }) (ex : f x = .int k m) (ey : f y = .int k n) : (execOp f o).run P w = .ok (.value (.int k (maxI m n))) w := by
  rw [maxI_if]
  obtain ⟨cs, hr⟩ := run_builtin (P := P) (w := w) (f := f) hop
  rw [hr]
  simp [ex, ey, builtin, Builtin.max_, Builtin.max2]
theorem go_mm (h : MRel F g st (tm a) w) {b : Builtin} {args : Array Operand} {ts : Array TypeId} (hb : b = .min ∨ b = .max) (hop : o.op = .call { callee := .builtin b, args := args, argTypes := ts }) (hv : pvU E o st (evK st.kn st.φ) C = some r) : Goes E F g st a w o C r := by
  simp only [pvU, hop] at hv
  obtain ⟨x, y, t, u, p, ea, et, hp, hv⟩ := bltP_mm hv hb
  obtain rfl : args = #[x, y] := by cases args; simp_all
  obtain rfl : ts = #[t, u] := by cases ts; simp_all
  have hx := ev_rel h x
  have hy := ev_rel h y
  unfold mmP at hp
  split at hp
  · rename_i k m k' n e1 e2
    rw [e1] at hx; rw [e2] at hy
    obtain ⟨ex, wx⟩ := rel_int hx
    obtain ⟨ey, wy⟩ := rel_int hy
    split at hp
    · rename_i hk
      have := ikEq_eq hk
      subst this
      injection hp with hp
      subst hp
      rcases hb with rfl | rfl
      · refine goes_same h (v := .int k (minI m n)) (p := pint k (minI m n)) ?_ (mk_int (minI_wf wx wy)) (fun _ _ _ _ e => by cases e) hv
        exact run_min hop ex ey
      · refine goes_same h (v := .int k (maxI m n)) (p := pint k (maxI m n)) ?_ (mk_int (maxI_wf wx wy)) (fun _ _ _ _ e => by cases e) hv
        exact run_max hop ex ey
    · cases hp
  · cases hp
end
end Pv
end Go.Proofs.Ytgcgdfjldeihkaa
