/- The conditions of Vc are sound for the model's code: operations that may come at any time. -/
import Derived.Test.YtnlekdpnjphmfaaVcl
namespace Go.Proofs.Ytnlekdpnjphmfaa
namespace Vc
/-! ### worlds with holes behind them -/
theorem Pad.trans {v v1 v2 : World} (h : Pad v v1) (k : Pad v1 v2) : Pad v v2 := by
  induction k with
  | refl => exact h
  | hv _ ih => exact ih.hv
theorem Pad.old {v v' : World} (h : Pad v v') : v.heap.size ≤ v'.heap.size ∧ ∀ b, b < v.heap.size → v'.heap[b]? = v.heap[b]? := by
  induction h with
  | refl => exact ⟨Nat.le_refl _, fun _ _ => rfl⟩
  | @hv v' _ ih =>
    refine ⟨by unfold Vc.hv; rw [size_alloc]; omega, fun b hb => ?_⟩
    unfold Vc.hv
    rw [heap_alloc_old _ _ _ (Nat.lt_of_lt_of_le hb ih.1), ih.2 b hb]
theorem Pad.cell {v v' : World} (h : Pad v v') {a : Addr} {x : Value} (hx : v.cell? a = some x) : v'.cell? a = some x := by
  obtain ⟨cs, t, fr, e⟩ := cell_block hx
  have e' := h.old.2 _ (some_lt e)
  unfold World.cell? at hx ⊢
  rw [e', e]; rw [e] at hx; exact hx
theorem readsC_pad {v v' : World} (h : Pad v v') {a : Addr} : ∀ {i : Nat} {cs : List Value}, readsC v a i cs → readsC v' a i cs
  | _, [], _ => trivial
  | _, _ :: _, ⟨h1, h2⟩ => ⟨h.cell h1, readsC_pad h h2⟩
theorem readsC_get {v : World} {a : Addr} : ∀ {i : Nat} {cs : List Value}, readsC v a i cs → ∀ (j : Nat) (x : Value), cs[j]? = some x → v.cell? (a.add (i + j)) = some x
  | _, [], _, j, x, hx => by simp at hx
  | i, c :: cs, ⟨h1, h2⟩, 0, x, hx => by simp only [List.getElem?_cons_zero, Option.some.injEq] at hx; subst hx; exact h1
  | i, c :: cs, ⟨h1, h2⟩, j + 1, x, hx => by
    have := readsC_get h2 j x (by simpa using hx)
    rwa [show i + 1 + j = i + (j + 1) by omega] at this
theorem cnd_mono {b : Option (Bool × Bool)} {p q : Prop} (h : p → q) (hp : cnd b p) : cnd b q := by
  cases b with
  | none => exact h hp
  | some x =>
    obtain ⟨b, w⟩ := x
    cases w
    · exact fun e => h (hp e)
    · exact fun e => h (hp e)
/-- The guard's Bool is as wanted. -/
def met : Option (Bool × Bool) → Prop
  | none => True
  | some (b, w) => b = w
theorem cnd_met {b : Option (Bool × Bool)} {p : Prop} (h : cnd b p) (hm : met b) : p := by
  cases b with
  | none => exact h
  | some x =>
    obtain ⟨b, w⟩ := x
    cases w
    · exact h hm
    · exact h hm

section
variable {E : Env} {v0 w0 : World} {n : Nat} {ρ : Nat → Nat} {st : St} {a : Act} {w : World} {g : Option (Nat × Bool)} {b : Option (Bool × Bool)} {φ φ' : Slots} {L L' : Locals} {v v' : World}
def detM (E : Env) (g : Option (Nat × Bool)) (b : Option (Bool × Bool)) (o : Oper) (φ : Slots) (v : World) (s : SV) : Prop :=
  match o.op with
  | .load t x => ∃ a cs n, evG g φ x = .val (.pointer (some a)) ∧ sizeT E.P t = some n ∧ cs.length = n ∧ (E.P.underlying t).isSome = true ∧ (isAg E.P t = true ∨ n = 1) ∧ cnd b (readsC v a 0 cs) ∧ s = .val (shut E.P t cs)
  | .nilCheck x => ∃ p a, evG g φ x = .val (.pointer p) ∧ cnd b (p = some a) ∧ s = .val (.pointer (some a))
  | .indexAddr t x i => ∃ p n c k j e sz a, evG g φ x = .val (.slice p n c) ∧ evG g φ i = .val (.int k j) ∧ E.P.underlying t = some (.slice e) ∧ sizeT E.P e = some sz ∧ cnd b (p = some a ∧ 0 ≤ j ∧ j < (n : Int)) ∧
      s = .val (.pointer (some (a.add (j.toNat * sz))))
  | .index t x i => ∃ str k j c, evG g φ x = .val (.string str) ∧ evG g φ i = .val (.int k j) ∧ E.P.underlying t = some .string ∧ cnd b (0 ≤ j ∧ str[j.toNat]? = some c) ∧ s = .val (.int .u8 ((c : UInt8).toNat : Int))
  | .slice t x lo hi mx => mx = none ∧
      ((∃ str l h, evG g φ x = .val (.string str) ∧ E.P.underlying t = some .string ∧ bound lo (rhoG g φ) 0 = some l ∧ bound hi (rhoG g φ) (str.size : Int) = some h ∧ cnd b (0 ≤ l ∧ l ≤ h ∧ h ≤ (str.size : Int)) ∧
          s = .val (.string (str.extract l.toNat h.toNat))) ∨
       (∃ p n c e sz l h, evG g φ x = .val (.slice p n c) ∧ E.P.underlying t = some (.slice e) ∧ sizeT E.P e = some sz ∧ bound lo (rhoG g φ) 0 = some l ∧ bound hi (rhoG g φ) (n : Int) = some h ∧ cnd b (0 ≤ l ∧ l ≤ h ∧ h ≤ (c : Int)) ∧
          s = .val (.slice (if c = l.toNat then p else p.map (·.add (l.toNat * sz))) (h.toNat - l.toNat) (c - l.toNat))))
  | .call c => ∃ f args ts fn x, c = ⟨.value (.func f), args, ts⟩ ∧ o.op.operands.toList.all (isVal g φ) = true ∧ E.P.funcs[f]? = some fn ∧ (fn.body.isSome && !(fn.name == "runtime.NumGoroutine")) = true ∧
      cnd b (∀ v1, Pad v v1 → CallsV E.P f (args.map (rhoG g φ)) v1 fun r v2 => r = x ∧ Pad v1 v2) ∧ s = .val x
  | _ => False
def detR (E : Env) (g : Option (Nat × Bool)) (b : Option (Bool × Bool)) (o : Oper) (φ : Slots) (L : Locals) (v : World) (s : SV) : Prop :=
  match specOp E.P g o.op o.type ⟨φ, L, v⟩ with
  | some s' => s = s'
  | none => detM E g b o φ v s
theorem exT_len {F : List Value → Prop} : ∀ {ks : List Kd}, exT ks F → ∃ cs, cs.length = ks.length ∧ F cs
  | [], h => ⟨[], rfl, h⟩
  | k :: ks, h => by
    obtain ⟨x, hx⟩ := kex_some h
    obtain ⟨cs, hl, hc⟩ := exT_len hx
    exact ⟨x :: cs, by simp [hl], hc⟩
theorem det_R {o : Oper} {C : SV → Prop} (h : detC E g b o φ L v C) : ∃ s, detR E g b o φ L v s ∧ C s := by
  unfold detC at h
  unfold detR
  cases hs : specOp E.P g o.op o.type ⟨φ, L, v⟩ with
  | some s => rw [hs] at h; exact ⟨s, rfl, h⟩
  | none =>
    rw [hs] at h
    simp only at h ⊢
    clear hs
    unfold detM
    cases ho : o.op <;> simp only [ho] at h ⊢ <;> try exact h.elim
    case load t x =>
      split at h
      · rename_i a hx
        split at h
        · rename_i ks m hks hm
          split at h
          · rename_i hb
            simp only [Bool.and_eq_true, Bool.or_eq_true] at hb
            obtain ⟨cs, hl, hc, hC⟩ := exT_len h
            have hu : (E.P.underlying t).isSome = true := by
              have : kinds E.P deep t = some ks := hks
              unfold deep kinds at this
              cases hu : E.P.underlying t with
              | none => rw [hu] at this; cases this
              | some d => rfl
            exact ⟨_, ⟨a, cs, m, hx, hm, by rw [hl]; simpa using hb.1, hu, hb.2.imp id (fun e => by simpa using e), hc, rfl⟩, hC⟩
          · exact h.elim
        · exact h.elim
      · exact h.elim
    case nilCheck x =>
      split at h
      · rename_i p hx
        obtain ⟨a, hc, hC⟩ := h
        exact ⟨_, ⟨p, a, hx, hc, rfl⟩, hC⟩
      · exact h.elim
    case indexAddr t x i =>
      split at h
      · rename_i p m c k j e hx hi hu
        split at h
        · rename_i sz hsz
          obtain ⟨a, hc, hC⟩ := h
          exact ⟨_, ⟨p, m, c, k, j, e, sz, a, hx, hi, hu, hsz, hc, rfl⟩, hC⟩
        · exact h.elim
      · exact h.elim
    case index t x i =>
      split at h
      · rename_i str k j hx hi hu
        obtain ⟨c, hc, hC⟩ := h
        exact ⟨_, ⟨str, k, j, c, hx, hi, hu, hc, rfl⟩, hC⟩
      · exact h.elim
    case slice t x lo hi mx =>
      split at h
      · rename_i str hx hu
        split at h
        · rename_i l hh hl hhh
          exact ⟨_, ⟨rfl, .inl ⟨str, l, hh, hx, hu, hl, hhh, h.1, rfl⟩⟩, h.2⟩
        · exact h.elim
      · rename_i p m c e hx hu
        split at h
        · rename_i l hh sz hl hhh hsz
          exact ⟨_, ⟨rfl, .inr ⟨p, m, c, e, sz, l, hh, hx, hu, hsz, hl, hhh, h.1, rfl⟩⟩, h.2⟩
        · exact h.elim
      · exact h.elim
    case call c =>
      obtain ⟨callee, args, ts⟩ := c
      cases callee with
      | value x =>
        cases x with
        | func f =>
          simp only at h
          split at h
          · rename_i fn hok hf
            split at h
            · rename_i hb
              obtain ⟨x, hc, hC⟩ := exR_sound h
              exact ⟨_, ⟨f, args, ts, fn, x, rfl, hok, hf, hb, hc, rfl⟩, hC⟩
            · exact h.elim
          · exact h.elim
        | tmp _ => exact h.elim
        | const _ => exact h.elim
        | global _ => exact h.elim
      | invoke _ _ => exact h.elim
      | builtin _ => exact h.elim

/-! ### only the operands count -/
theorem evG_congr {x : Operand} (h : evS φ' x = evS φ x) : evG g φ' x = evG g φ x := by unfold evG; rw [h]
theorem rhoG_congr {x : Operand} (h : evS φ' x = evS φ x) : rhoG g φ' x = rhoG g φ x := by unfold rhoG; rw [evG_congr h]
theorem isVal_congr {x : Operand} (h : evS φ' x = evS φ x) : isVal g φ' x = isVal g φ x := by unfold isVal; rw [evG_congr h]
theorem all_congr {xs : Array Operand} (h : ∀ x ∈ xs, evS φ' x = evS φ x) : xs.toList.all (isVal g φ') = xs.toList.all (isVal g φ) := by
  rw [Bool.eq_iff_iff, List.all_eq_true, List.all_eq_true]
  constructor
  · intro hh x hx; rw [← isVal_congr (h x (by simpa using hx))]; exact hh x hx
  · intro hh x hx; rw [isVal_congr (h x (by simpa using hx))]; exact hh x hx
theorem plainOp_congr {P : Program} {op : Op} (h : ∀ x ∈ op.operands, evS φ' x = evS φ x) : plainOp P (rhoG g φ') op = plainOp P (rhoG g φ) op := by
  cases op <;> try rfl
  case call c => obtain ⟨callee, args, ts⟩ := c; cases callee <;> rfl
  case binOp o t x y u =>
    show plainBin o y _ _ = plainBin o y _ _
    rw [rhoG_congr (h x (by simp [Op.operands])), rhoG_congr (h y (by simp [Op.operands]))]
theorem specPlain_congr {P : Program} {op : Op} {ty : TypeId} (h : ∀ x ∈ op.operands, evS φ' x = evS φ x) : specPlain P g op ty φ' = specPlain P g op ty φ := by
  unfold specPlain
  rw [plainOp_congr h, all_congr h]
  by_cases hs : ∃ cs q, op = .select cs q
  · obtain ⟨cs, q, rfl⟩ := hs
    rfl
  · rw [execOp_congr (ρ := rhoG g φ') (ρ' := rhoG g φ) ⟨none, op, ty, "", #[], none⟩ (fun cs q e => hs ⟨cs, q, e⟩) (fun x hx => rhoG_congr (h x hx))]
theorem evS_tmp {t : Nat} (h : evS φ' (.tmp t) = evS φ (.tmp t)) : φ' t = φ t := h
theorem specOp_congr {P : Program} {op : Op} {ty : TypeId} (hn : ∀ t x, op ≠ .load t x) (h : ∀ x ∈ op.operands, evS φ' x = evS φ x) : specOp P g op ty ⟨φ', L', v'⟩ = specOp P g op ty ⟨φ, L, v⟩ := by
  cases op <;> try (unfold specOp; exact specPlain_congr h)
  case load t x => exact (hn t x rfl).elim
  case move x => unfold specOp; simp only; rw [evG_congr (h x (by simp [Op.operands]))]
  case assign x => unfold specOp; simp only; rw [evG_congr (h x (by simp [Op.operands]))]
  case nilCheck x => unfold specOp; simp only; rw [evG_congr (h x (by simp [Op.operands]))]
  case fieldAddr t x f => unfold specOp; simp only; rw [evG_congr (h x (by simp [Op.operands]))]
  case binOp o t x y u =>
    unfold specOp
    simp only
    rw [evG_congr (h x (by simp [Op.operands])), evG_congr (h y (by simp [Op.operands])), specPlain_congr h]
  case pick c x y =>
    unfold specOp
    cases g with
    | some _ => rfl
    | none =>
      show pickOp φ' c x y = pickOp φ c x y
      unfold pickOp
      cases c with
      | tmp t =>
        have h1 := evS_tmp (h (.tmp t) (by simp [Op.operands]))
        simp only
        rw [h1]
        have h2 := fun g => evG_congr (g := g) (h x (by simp [Op.operands]))
        have h3 := fun g => evG_congr (g := g) (h y (by simp [Op.operands]))
        simp only [h2, h3]
      | const _ => rfl
      | global _ => rfl
      | func _ => rfl
theorem bound_congr {x : Option Operand} {d : Int} (h : ∀ y, x = some y → evS φ' y = evS φ y) : bound x (rhoG g φ') d = bound x (rhoG g φ) d := by
  unfold bound
  cases x with
  | none => rfl
  | some y => simp only [rhoG_congr (h y rfl)]
theorem det_congr {o : Oper} {s : SV} (hd : detR E g b o φ L v s) (h : ∀ x ∈ o.op.operands, evS φ' x = evS φ x) (hL : ∀ x ∈ o.op.operands, ∀ k off cs, evG g φ x = .loc k off → L k = some cs → L' k = some cs) (hp : Pad v v') :
    detR E g b o φ' L' v' s := by
  by_cases hl : ∃ t x, o.op = .load t x
  · obtain ⟨t, x, ho⟩ := hl
    have hx : evS φ' x = evS φ x := h x (by rw [ho]; simp [Op.operands])
    have hLx := hL x (by rw [ho]; simp [Op.operands])
    unfold detR specOp at hd ⊢
    unfold detM at hd ⊢
    simp only [ho] at hd ⊢
    rw [evG_congr hx]
    cases he : evG g φ x with
    | loc k off =>
      simp only [he] at hd ⊢
      cases hll : loadL E.P L t k off with
      | none =>
        simp only [hll] at hd
        obtain ⟨a, cs, m, h1, _⟩ := hd
        cases h1
      | some u =>
        simp only [hll] at hd
        have : loadL E.P L' t k off = some u := by
          unfold loadL at hll ⊢
          cases hLk : L k with
          | none => rw [hLk] at hll; cases hll
          | some cs => rw [hLx k off cs he hLk]; rw [hLk] at hll; exact hll
        simp only [this]
        exact hd
    | val u =>
      simp only [he] at hd ⊢
      obtain ⟨a, cs, m, h1, h2, h3, h4, h5, h6, h7⟩ := hd
      exact ⟨a, cs, m, h1, h2, h3, h4, h5, cnd_mono (readsC_pad hp) h6, h7⟩
    | dead => simp only [he] at hd; obtain ⟨a, cs, m, h1, _⟩ := hd; cases h1
    | spec j q s' => simp only [he] at hd; obtain ⟨a, cs, m, h1, _⟩ := hd; cases h1
  · have hn : ∀ t x, o.op ≠ .load t x := fun t x e => hl ⟨t, x, e⟩
    unfold detR at hd ⊢
    rw [specOp_congr (v := v) (L := L) hn h]
    cases hs : specOp E.P g o.op o.type ⟨φ, L, v⟩ with
    | some s' => rw [hs] at hd; exact hd
    | none =>
      rw [hs] at hd
      simp only at hd ⊢
      unfold detM at hd ⊢
      cases ho : o.op <;> simp only [ho] at hd h ⊢ <;> try exact hd.elim
      case load t x => exact (hn t x ho).elim
      case nilCheck x => rw [evG_congr (h x (by simp [Op.operands]))]; exact hd
      case indexAddr t x i => rw [evG_congr (h x (by simp [Op.operands])), evG_congr (h i (by simp [Op.operands]))]; exact hd
      case index t x i => rw [evG_congr (h x (by simp [Op.operands])), evG_congr (h i (by simp [Op.operands]))]; exact hd
      case slice t x lo hi mx =>
        have h1 : ∀ y, lo = some y → evS φ' y = evS φ y := fun y e => h y (by subst e; simp [Op.operands])
        have h2 : ∀ y, hi = some y → evS φ' y = evS φ y := fun y e => h y (by subst e; simp [Op.operands])
        have hb1 : ∀ d, bound lo (rhoG g φ') d = bound lo (rhoG g φ) d := fun d => bound_congr h1
        have hb2 : ∀ d, bound hi (rhoG g φ') d = bound hi (rhoG g φ) d := fun d => bound_congr h2
        simp only [hb1, hb2]
        rw [evG_congr (h x (by simp [Op.operands]))]; exact hd
      case call c =>
        obtain ⟨f, args, ts, fn, x, rfl, h1, h2, h3, h4, h5⟩ := hd
        have hargs : args.map (rhoG g φ') = args.map (rhoG g φ) := Array.map_congr_left fun x hx => rhoG_congr (h x (by simp [Op.operands, Call.operands, hx]))
        refine ⟨f, args, ts, fn, x, rfl, by rw [all_congr h]; exact h1, h2, h3, ?_, h5⟩
        rw [hargs]
        exact cnd_mono (fun hh v1 hv1 => hh v1 (hp.trans hv1)) h4
end
end Vc
end Go.Proofs.Ytnlekdpnjphmfaa
