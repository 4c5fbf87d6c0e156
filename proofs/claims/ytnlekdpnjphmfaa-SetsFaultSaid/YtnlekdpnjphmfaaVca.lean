/- What appends and slice literals do to the condition's world. -/
import Derived.Test.YtnlekdpnjphmfaaVco
import Derived.Laws.OwnMore
import Derived.ArgAppend
namespace Go.Proofs.Ytnlekdpnjphmfaa
namespace Vc
theorem reflect {v w w' : World} {row : Option Nat} (h : Vis v w) (hg : w.grownBy w' row) (hrow : ∀ k : Nat, row = some k → ∃ o : Obj, v.heap[k]? = some o ∧ isHole o = false) :
    ∃ v', Vis v' w' ∧ Keep v w v' w' ∧ v.grownBy v' row ∧ ∀ (b : Nat) (o : Obj), w'.heap[b]? = some o → (∀ x : Obj, v.heap[b]? = some x → isHole x = false) → v'.heap[b]? = some o := by
  let f : Nat → Obj → Obj := fun i o => match v.heap[i]? with | some x => if isHole x = true then x else o | none => o
  let v' : World := { v with heap := w'.heap.mapIdx f }
  have hsz : v'.heap.size = w'.heap.size := by simp [v']
  have get : ∀ b o, w'.heap[b]? = some o → v'.heap[b]? = some (f b o) := fun b o hb => by simp [v', hb]
  have back : ∀ b o, v'.heap[b]? = some o → ∃ o', w'.heap[b]? = some o' ∧ o = f b o' := fun b o hb => by
    have hlt : b < w'.heap.size := by rw [← hsz]; exact some_lt hb
    refine ⟨w'.heap[b], by simp [hlt], ?_⟩
    have := get b (w'.heap[b]) (by simp [hlt])
    rw [this] at hb
    simpa using hb.symm
  have hvw : v.heap.size ≤ w'.heap.size := by rw [← h.size]; exact hg.size
  refine ⟨v', ⟨hsz.symm, hg.os.trans h.os, hg.tape.trans h.tape, hg.output.trans h.output, fun b o hb ho => ?_⟩, ⟨by omega, hg.os, hg.tape, hg.output, fun b o hb ho => ⟨?_, ?_⟩⟩, ⟨rfl, rfl, rfl, by omega, fun k hk hne => ?_⟩, fun b o hb hx => ?_⟩
  · obtain ⟨o', ho', rfl⟩ := back b o hb
    rw [ho']
    show some o' = some (f b o')
    have hfo : isHole (f b o') = false := ho
    dsimp only [f] at hfo ⊢
    split
    · split
      · rename_i x _ hh; simp only [‹v.heap[b]? = some x›, hh, if_true] at hfo; cases hfo
      · rfl
    · rfl
  · have hlt := some_lt hb
    have := get b (w'.heap[b]'(by omega)) (by simp [show b < w'.heap.size by omega])
    rw [this]
    show some (f b _) = some o
    dsimp only [f]
    rw [hb]
    simp [ho]
  · refine hg.block b (by rw [h.size]; exact some_lt hb) fun e => ?_
    obtain ⟨o', ho', hh⟩ := hrow b e.symm
    rw [hb] at ho'; cases ho'
    rw [ho] at hh; cases hh
  · have hwk : w'.heap[k]? = w.heap[k]? := hg.block k (by rw [h.size]; exact hk) hne
    have hx : v.heap[k]? = some v.heap[k] := by simp [hk]
    have := get k (w'.heap[k]'(by omega)) (by simp [show k < w'.heap.size by omega])
    rw [this, hx]
    show some (f k _) = _
    dsimp only [f]
    rw [hx]
    by_cases hh : isHole v.heap[k] = true
    · simp [hh]
    · have h1 := h.block k _ hx (by simpa using hh)
      rw [← hwk] at h1
      have h2 : w'.heap[k]'(by omega) = v.heap[k] := by
        have h3 : w'.heap[k]? = some (w'.heap[k]'(by omega)) := by simp [show k < w'.heap.size by omega]
        rw [h1] at h3; exact (Option.some.inj h3).symm
      simp [hh, h2]
  · rw [get b o hb]
    dsimp only [f]
    split
    · rename_i x hx'
      rw [hx x hx']; simp
    · rfl
theorem Vis.owns {v w : World} (h : Vis v w) {base : Nat} {e : TypeId} {size : Nat} {s : Value} {n : Nat} {xs : List Value} (ho : v.ownsRow base e size s n xs) : w.ownsRow base e size s n xs := by
  refine ⟨ho.1, ho.2.imp id ?_⟩
  rintro ⟨g, cap, cur, h1, h2, h3, h4⟩
  exact ⟨g, cap, cur, h1, h2, h.block g _ h3 rfl, h4⟩
theorem owns_block {v : World} {base : Nat} {e : TypeId} {size : Nat} {s : Value} {n : Nat} {xs : List Value} (ho : v.ownsRow base e size s n xs) : ∀ k, s.ownBlock = some k → ∃ o, v.heap[k]? = some o ∧ isHole o = false := fun k hk => by
  rcases ho.2 with ⟨rfl, _⟩ | ⟨g, cap, cur, rfl, h2, h3, _⟩
  · cases hk
  · have : g = k := by simpa [Value.ownBlock] using hk
    subst this
    exact ⟨_, h3, rfl⟩
/-- The cells behind a slice's address. -/
def Cells (v : World) (a : Option Addr) (cs : List Value) : Prop := ∀ j u, cs[j]? = some u → ∃ ad, a = some ad ∧ v.cell? (ad.add j) = some u
theorem run_append_none {P : Program} (w : World) (base : Nat) (t ty e : TypeId) (i : TypeInfo) (size : Nat) (ht : P.underlying t = some (.slice e)) (hi : P.info? e = some i)
    (s : Value) (n : Nat) (xs : List Value) (hown : w.ownsRow base e size s n xs) (c : Nat) :
    (Builtin.append_ #[t, t] ty #[s, .slice none 0 c]).run P w = .ok s w := by
  rcases hown.2 with ⟨rfl, rfl⟩ | ⟨g, cap, cur, rfl, _, _, hnc, _⟩
  · simp [Builtin.append_, run_underlying ht, sizeOf, typeInfo, hi, Builtin.lenOf, Builtin.firstCells]
  · simp [Builtin.append_, run_underlying ht, sizeOf, typeInfo, hi, Builtin.lenOf, Builtin.firstCells, hnc, storeCells]
theorem runs_append {P : Program} {v : World} (base : Nat) (t ty e : TypeId) (i : TypeInfo) (z : Value) (size bytes : Nat) (ht : P.underlying t = some (.slice e)) (hi : P.info? e = some i) (hz : i.zero = some z)
    (hsize : i.size = size) (hby : i.bytes = bytes) (hzs : z.cells.size = size) (hsz : 0 < size) {s : Value} {n : Nat} {xs : List Value} (hown : v.ownsRow base e size s n xs)
    {a : Option Addr} {m c : Nat} {news : List Value} (hl : news.length = m * size) (hnews : Cells v a news) (h1 : news.all one = true)
    (h63 : n + m ≤ maxLen) (hbytes : (n + m) * bytes ≤ 140737488355328) (hbase : base ≤ v.heap.size) {cs : Array Bool} {K : Next → World → Prop}
    (hK : ∀ r v', v'.ownsRow base e size r (n + m) (xs ++ news) → v.grownBy v' s.ownBlock → K (.value r) v') : Runs P (builtin .append #[t, t] ty cs #[s, .slice a m c]) v K := by
  intro w hw
  have ho := hw.owns hown
  have hone : ∀ u ∈ news, u.oneCell' = true := fun u hu => by rw [← one_eq]; exact List.all_eq_true.1 h1 u hu
  have hw0 : base ≤ w.heap.size := by rw [hw.size]; exact hbase
  have key : ∃ r w', (Builtin.append_ #[t, t] ty #[s, .slice a m c]).run P w = .ok r w' ∧ w'.ownsRow base e size r (n + m) (xs ++ news) ∧ w.grownBy w' s.ownBlock ∧ ∀ g, r.ownBlock = some g → s.ownBlock = some g ∨ w.heap.size ≤ g := by
    cases a with
    | none =>
      have hn : news = [] := by
        cases news with
        | nil => rfl
        | cons u us => obtain ⟨ad, h, _⟩ := hnews 0 u rfl; cases h
      subst hn
      have hm : m = 0 := by
        rcases Nat.eq_zero_or_pos m with h | h
        · exact h
        · have := Nat.mul_pos h hsz; simp at hl; omega
      subst hm
      exact ⟨s, w, run_append_none w base t ty e i size ht hi s n xs ho c, by simpa using ho, ⟨rfl, rfl, rfl, Nat.le_refl _, fun _ _ _ => rfl⟩, fun g hg => .inl hg⟩
    | some ad =>
      have hc : ∀ j u, news[j]? = some u → w.cell? (ad.add j) = some u := fun j u hj => by
        obtain ⟨ad', e, hc⟩ := hnews j u hj
        cases e
        exact hw.cell hc
      have loose : ∀ {w' : World} {r : Value} {k : Nat} {ys : List Value}, w'.ownsRow w.heap.size e size r k ys → w'.ownsRow base e size r k ys ∧ ∀ g, r.ownBlock = some g → w.heap.size ≤ g := fun {w' r k ys} hh => by
        refine ⟨⟨hh.1, hh.2.imp id fun ⟨g, cap, cur, e1, e2, e3⟩ => ⟨g, cap, cur, e1, Nat.le_trans hw0 e2, e3⟩⟩, fun g hg => (hh.lt g hg).1⟩
      rcases ho.2 with ⟨rfl, rfl⟩ | ⟨g, cap, cur, rfl, _, _, hnc, _⟩
      · have hx : xs = [] := List.eq_nil_of_length_eq_zero (by simpa using ho.1)
        subst hx
        obtain ⟨r, w', hr, h2, h3, _⟩ := run_append_own (P := P) w w.heap.size t ty e i z size bytes ht hi hz hsize hby hzs hsz (.slice none 0 0) 0 [] (World.ownsRow_nil w _ e size) ad m c news hl hc hone h63 hbytes (Nat.le_refl _)
        exact ⟨r, w', hr, (loose h2).1, h3, fun g hg => .inr ((loose h2).2 g hg)⟩
      · by_cases hroom : n + m ≤ cap
        · obtain ⟨w', hr, h2, h3⟩ := run_append_fits (P := P) w base t ty e i size ht hi hsize g n cap xs ho ad m c news hl hc hone hroom
          exact ⟨_, w', hr, h2, h3, fun k hk => .inl hk⟩
        · obtain ⟨r, w', hr, h2, h3⟩ := run_append_arg_grows (P := P) w t ty e i z size bytes ht hi hz hsize hby hzs hsz ⟨g, 0, none⟩ n cap xs ho.1 (ho.cells rfl) ad m c news hl hc (by omega) h63 hbytes
          exact ⟨r, w', hr, (loose h2).1, ⟨h3.os, h3.tape, h3.output, h3.size, fun k hk _ => h3.block k hk (by simp)⟩, fun k hk => .inr ((loose h2).2 k hk)⟩
  obtain ⟨r, w', hr, h2, h3, h5⟩ := key
  obtain ⟨v', g1, g2, g3, g4⟩ := reflect hw h3 (owns_block hown)
  refine ⟨.value r, w', v', ?_, g1, g2, hK r v' ⟨h2.1, h2.2.imp id ?_⟩ g3⟩
  · simp [builtin, hr]
  · rintro ⟨g, cap, cur, e1, e2, e3, e4⟩
    refine ⟨g, cap, cur, e1, e2, g4 g _ e3 fun x hx => ?_, e4⟩
    rcases h5 g (by rw [e1]; rfl) with hg | hg
    · obtain ⟨o, ho', hh⟩ := owns_block hown g hg
      rw [ho'] at hx; cases hx; exact hh
    · have := some_lt hx
      have := hw.size
      omega
/-- A slice literal. -/
theorem runs_literal {P : Program} {v : World} {t : TypeId} {k : Nat} {parts : Array (Nat × Value)} {cs : Array Value} {e : TypeId} (hrun : ∀ w : World, (Instr.buildSlice t k parts).run P w = .ok (.slice (some ⟨w.heap.size, 0, none⟩) k k) (w.alloc (.cells cs e)))
    {K : Next → World → Prop} (hK : K (.value (.slice (some ⟨v.heap.size, 0, none⟩) k k)) (v.alloc (.cells cs e))) : Runs P (do pure (Next.value (← Instr.buildSlice t k parts))) v K := by
  intro w hw
  refine ⟨_, w.alloc (.cells cs e), v.alloc (.cells cs e), ?_, hw.alloc _ _ fun _ => rfl, Keep.alloc hw _ _, hK⟩
  rw [Sem.run_bind, hrun w, hw.size]
  rfl
theorem grown_ext {v v' : World} {row : Option Nat} (h : v.grownBy v' row) {v0 : World} (h0 : Ext v0 v) (hr : ∀ k, row = some k → v0.heap.size ≤ k) : Ext v0 v' :=
  ⟨Nat.le_trans h0.size h.size, fun b hb => (h.block b (Nat.lt_of_lt_of_le hb h0.size) fun e => by have := hr b e.symm; omega).trans (h0.block b hb)⟩
theorem grown_of_ext {v v' : World} (h : Ext v v') (ho : v'.os = v.os) (ht : v'.tape = v.tape) (hu : v'.output = v.output) (row : Option Nat) : v.grownBy v' row := ⟨ho, ht, hu, h.size, fun k hk _ => h.block k hk⟩
theorem Pad.same {v v' : World} (h : Pad v v') : v'.os = v.os ∧ v'.tape = v.tape ∧ v'.output = v.output := by
  induction h with
  | refl => exact ⟨rfl, rfl, rfl⟩
  | hv _ ih => exact ih
theorem Pad.grown {v v' : World} (h : Pad v v') (row : Option Nat) : v.grownBy v' row := grown_of_ext h.ext h.same.1 h.same.2.1 h.same.2.2 row
theorem Pad.owns {v v' : World} (h : Pad v v') {base : Nat} {e : TypeId} {size : Nat} {s : Value} {n : Nat} {xs : List Value} (ho : v.ownsRow base e size s n xs) : v'.ownsRow base e size s n xs :=
  ho.kept (h.grown none) (by cases hs : s.ownBlock <;> simp)
/-- What is owned is read. -/
theorem owns_cells {v : World} {base : Nat} {e : TypeId} {size : Nat} {a : Option Addr} {k c n : Nat} {xs : List Value} (ho : v.ownsRow base e size (.slice a k c) n xs) : k = n ∧ Cells v a xs := by
  rcases ho.2 with ⟨h, rfl⟩ | ⟨g, cap, cur, h, hb, hg, hr⟩
  · simp at h
    obtain ⟨rfl, rfl, rfl⟩ := h
    have : xs = [] := List.eq_nil_of_length_eq_zero (by simpa using ho.1)
    subst this
    exact ⟨rfl, fun j u hj => by simp at hj⟩
  · simp at h
    obtain ⟨rfl, rfl, rfl⟩ := h
    exact ⟨rfl, fun j u hj => ⟨_, rfl, ho.cells rfl j u hj⟩⟩
theorem flat_get {k : Nat} : ∀ {l : List (List Value)} {i j : Nat} {cs : List Value} {x : Value}, (∀ r ∈ l, r.length = k) → l[i]? = some cs → cs[j]? = some x → l.flatten[i * k + j]? = some x
  | [], i, j, cs, x, _, h, _ => by simp at h
  | r :: l, 0, j, cs, x, hk, h, hx => by
    simp only [List.getElem?_cons_zero, Option.some.injEq] at h
    subst h
    rw [List.flatten_cons, Nat.zero_mul, Nat.zero_add, List.getElem?_append_left (List.getElem?_eq_some_iff.1 hx).1]
    exact hx
  | r :: l, i + 1, j, cs, x, hk, h, hx => by
    have hr := hk r (by simp)
    rw [List.flatten_cons, List.getElem?_append_right (by rw [hr, Nat.add_mul]; omega)]
    have := flat_get (l := l) (fun q hq => hk q (List.mem_cons_of_mem _ hq)) (by simpa using h) hx
    rw [hr, show (i + 1) * k + j - k = i * k + j by rw [Nat.add_mul]; omega]
    exact this
theorem Cells.rows {v : World} {a : Option Addr} {k : Nat} {l : List (List Value)} (hk : ∀ r ∈ l, r.length = k) (hpos : 0 < k) (h : Cells v a l.flatten) : RowsAt v a k l := fun i cs hi => by
  have hlen : cs.length = k := hk cs (List.mem_of_getElem? hi)
  obtain ⟨x0, hx0⟩ : ∃ x, cs[0]? = some x := ⟨cs[0], by simp⟩
  obtain ⟨ad, ha, _⟩ := h _ _ (flat_get hk hi hx0)
  refine ⟨ad, ha, fun j x hx => ?_⟩
  obtain ⟨ad', ha', hc⟩ := h _ _ (flat_get hk hi hx)
  rw [ha] at ha'; cases ha'
  exact hc
theorem RowsAt.cells {v : World} {a : Option Addr} {k : Nat} : ∀ {l : List (List Value)}, (∀ r ∈ l, r.length = k) → 0 < k → RowsAt v a k l → Cells v a l.flatten := by
  intro l hk hpos h j u hj
  have hlt : j < l.flatten.length := (List.getElem?_eq_some_iff.1 hj).1
  have hlen : l.flatten.length = l.length * k := by
    clear h hj hlt
    induction l with
    | nil => simp
    | cons r l ih => rw [List.flatten_cons, List.length_append, ih fun r hr => hk r (by simp [hr]), hk r (by simp), List.length_cons, Nat.add_mul]; omega
  have hdiv : j / k < l.length := by rw [hlen] at hlt; exact Nat.div_lt_of_lt_mul (by rwa [Nat.mul_comm] at hlt)
  obtain ⟨cs, hcs⟩ : ∃ cs, l[j / k]? = some cs := ⟨l[j / k], by simp [hdiv]⟩
  have hcl : cs.length = k := hk cs (List.mem_of_getElem? hcs)
  obtain ⟨x, hx⟩ : ∃ x, cs[j % k]? = some x := ⟨cs[j % k]'(by rw [hcl]; exact Nat.mod_lt _ hpos), by simp [hcl, Nat.mod_lt _ hpos]⟩
  have h1 := flat_get hk hcs hx
  rw [Nat.div_add_mod' j k, hj] at h1
  cases h1
  obtain ⟨ad, ha, hc⟩ := h _ _ hcs
  have := hc _ _ hx
  rw [Nat.div_add_mod' j k] at this
  exact ⟨ad, ha, this⟩
theorem Cells.ext {v v' : World} {a : Option Addr} {cs : List Value} (h : Cells v a cs) (he : Ext v v') : Cells v' a cs := fun j u hj =>
  let ⟨ad, h1, h2⟩ := h j u hj
  ⟨ad, h1, he.cell h2⟩
end Vc
end Go.Proofs.Ytnlekdpnjphmfaa
