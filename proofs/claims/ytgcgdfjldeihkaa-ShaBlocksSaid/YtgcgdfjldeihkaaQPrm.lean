/- sha.primes of sixty-four: by hand, over its closure. -/
import Derived.Test.YtgcgdfjldeihkaaQOwn
import Derived.Test.YtgcgdfjldeihkaaQShaD
import Derived.LoopTactic
import Derived.Handy
import Derived.RegionTactic
import Derived.Laws.AppendOwn
namespace Go.Proofs.Ytgcgdfjldeihkaa
open Go.RowKit Pv
set_option linter.unusedVariables false
def qcell (n : Nat) : Value := .int .u64 (n : Int)
set_option maxHeartbeats 4000000 in
set_option maxRecDepth 1000000 in
theorem idxf_walk (a : Option Addr) (c : Nat) (l : List Nat) (p B : Nat) (w : World) (hp : 2 ≤ p) (hp2 : p ≤ 312) (hpos : ∀ q ∈ l, 2 ≤ q ∧ q < 312) (hl : l.length ≤ 100) (hB : w.cell? ⟨B, 0, none⟩ = some (.int .u64 (p : Int)))
    (hc : ∀ (i : Nat) q, l[i]? = some q → ∃ ad, a = some ad ∧ w.cell? (ad.add i) = some (.int .u64 (q : Int))) :
    Calls Try.prog 32 #[.slice a l.length c, .func (.func 24) #[] #[.pointer (some ⟨B, 0, none⟩)]] w fun e w' => ∃ r : Int, e = .returned (.int .i64 r) ∧ (decide (r ≥ 0) = divs p l) ∧ w' = w := by
  obtain ⟨n, hn⟩ : ∃ n, l.length = n := ⟨_, rfl⟩
  rw [hn]
  go_enter Try.func32, Try.ntmps32
  go_wp2
  go_loop [8] (fun i => ∃ k : Nat, i = .int .i64 k ∧ k ≤ n ∧ ∀ (j : Nat) q, j < k → l[j]? = some q → (p % q == 0) = false) (fun i => n - (intOf i).toNat)
  case atStart => exact ⟨0, rfl, Nat.zero_le _, fun j q hj => absurd hj (Nat.not_lt_zero j)⟩
  case round =>
    obtain ⟨k, rfl, hk, hno⟩ := hrel
    by_cases hlt : k < n
    · obtain ⟨q, hq⟩ : ∃ q, l[k]? = some q := ⟨l[k]'(by omega), List.getElem?_eq_getElem (by omega)⟩
      obtain ⟨ad, rfl, hcell⟩ := hc k q hq
      obtain ⟨q2, q3⟩ := hpos q (List.mem_of_getElem? hq)
      have hq0 : ¬ (q : Int) = 0 := by omega
      have hmod : Int.tmod (p : Int) (q : Int) = ((p % q : Nat) : Int) := rfl
      clear hc
      have hdm : (((p % q : Nat) : Int) == 0) = (p % q == 0) := by
        rw [Bool.eq_iff_iff, beq_iff_eq, beq_iff_eq]; omega
      go_wp2
      · rename_i h _
        have hd : p % q = 0 := by exact_mod_cast (beq_iff_eq.1 h)
        go_ret
        refine ⟨(k : Int), rfl, ?_, rfl⟩
        rw [decide_eq_true (show (k : Int) ≥ 0 by omega)]
        exact (List.any_eq_true.2 ⟨q, List.mem_of_getElem? hq, by rw [hd]; rfl⟩).symm
      · rename_i h
        have hd : ¬ p % q = 0 := by
          try simp at h
          omega
        refine ⟨⟨k + 1, by simp, by omega, fun j q' hj hq' => ?_⟩, by simp [RowKit.intOf]; omega⟩
        by_cases hjk : j = k
        · subst hjk
          rw [hq] at hq'
          injection hq' with hq'
          subst hq'
          simpa using hd
        · exact hno j q' (by omega) hq'
    · go_wp2
      go_ret
      refine ⟨-1, rfl, ?_, rfl⟩
      have : divs p l = false := by
        unfold divs
        rw [Bool.eq_false_iff]
        intro h
        obtain ⟨q, hq, hz⟩ := List.any_eq_true.1 h
        obtain ⟨j, hj⟩ := List.mem_iff_getElem?.1 hq
        have hjl := (List.getElem?_eq_some_iff.1 hj).1
        rw [hno j q (by omega) hj] at hz
        cases hz
      rw [this]; rfl
set_option maxHeartbeats 4000000 in
set_option maxRecDepth 1000000 in
theorem conf_walk (a : Option Addr) (n c : Nat) (l : List Nat) (p B : Nat) (w : World) (hn : l.length = n) (hp : 2 ≤ p) (hp2 : p ≤ 312) (hpos : ∀ q ∈ l, 2 ≤ q ∧ q < 312) (hl : l.length ≤ 100) (hB : w.cell? ⟨B, 0, none⟩ = some (.int .u64 (p : Int)))
    (hc : ∀ (i : Nat) q, l[i]? = some q → ∃ ad, a = some ad ∧ w.cell? (ad.add i) = some (.int .u64 (q : Int))) :
    Calls Try.prog 23 #[.slice a n c, .func (.func 24) #[] #[.pointer (some ⟨B, 0, none⟩)]] w fun e w' => e = .returned (.bool (divs p l)) ∧ w' = w := by
  subst hn
  have A := idxf_walk a c l p B w hp hp2 hpos hl hB hc
  go_enter Try.func23, Try.ntmps23
  go_wp2_with (go_at_call 32; (with_reducible refine A.mono ?_); rintro e w' ⟨r, rfl, hr, rfl⟩)
  go_ret
  exact ⟨by rw [← hr]; rfl, rfl⟩
theorem infoQ : (Try.prog.info? 36).map (fun i => (i.zero, i.size, i.bytes)) = some (some (.int .u64 0), 1, 8) := by kernel_rfl
/-- A row and a number behind it. -/
structure PrmI (w0 : World) (v : Value) (p B : Nat) (wr : World) : Prop where
  h2 : 2 ≤ p
  h3 : p ≤ 312
  hB : wr.heap[B]? = some (.cells #[.int .u64 (p : Int)] 36)
  own : wr.ownsRow w0.heap.size 36 1 v (mN p) ((rowP p).map qcell)
  lt : ∀ k, v.ownBlock = some k → k < B
  bel : Below w0.heap.size w0 wr
  ge : w0.heap.size ≤ B
theorem own_view {w : World} {base : Nat} {e : TypeId} {v : Value} {n : Nat} {l : List Nat} (hl : l.length = n) (h : w.ownsRow base e 1 v n (l.map qcell)) : ∃ a c, v = .slice a n c ∧ ∀ (i : Nat) q, l[i]? = some q → ∃ ad, a = some ad ∧ w.cell? (ad.add i) = some (.int .u64 (q : Int)) := by
  rcases h.2 with ⟨h1, h2⟩ | ⟨b, cap, cur, h1, hb, hg, hle, hm, hs, ht⟩
  · refine ⟨none, 0, by rw [h1, h2], fun i q hq => ?_⟩
    have : l = [] := List.eq_nil_of_length_eq_zero (by omega)
    rw [this] at hq; cases hq
  · refine ⟨some ⟨b, 0, none⟩, cap, h1, fun i q hq => ⟨_, rfl, ?_⟩⟩
    have hi := (List.getElem?_eq_some_iff.1 hq).1
    have e : (cur.toList.take (n * 1))[i]? = some (.int .u64 (q : Int)) := by
      rw [ht, List.getElem?_map, hq]; rfl
    have ea : Addr.add ⟨b, 0, none⟩ i = ⟨b, i, none⟩ := by
      unfold Addr.add
      split <;> simp_all
    rw [ea, cell_at hg]
    rw [List.getElem?_take] at e
    split at e
    · simpa using e
    · cases e
theorem own_lt {w : World} {base : Nat} {e : TypeId} {v : Value} {n size : Nat} {l : List Value} (h : w.ownsRow base e size v n l) {k : Nat} (hk : v.ownBlock = some k) : k < w.heap.size := by
  rcases h.2 with ⟨h1, h2⟩ | ⟨b, cap, cur, h1, hb, hg, _⟩
  · rw [h1] at hk; cases hk
  · rw [h1] at hk
    have hk : b = k := by simpa [Value.ownBlock] using hk
    rw [← hk]
    exact lt_of_cells hg
def pOf (pt : Value) (wr : World) : Nat := match pt with
  | .pointer (some ad) => match wr.cell? ad with | some (.int _ n) => n.toNat | _ => 0
  | _ => 0
theorem prm_next {w wr : World} {v : Value} {p : Nat} (h2 : 2 ≤ p) (hp : p ≤ 311) (hown : wr.ownsRow w.heap.size 36 1 v (mN (p + 1)) ((rowP (p + 1)).map qcell)) (hbel : Below w.heap.size w wr) :
    PrmI w v (p + 1) wr.heap.size (wr.alloc (.cells #[.int .u64 ((p : Int) + 1)] 36)) where
  h2 := by omega
  h3 := by omega
  hB := by
    rw [heap_alloc_new]
    have : ((p : Int) + 1) = ((p + 1 : Nat) : Int) := by omega
    rw [this]
  own := hown.alloc _
  lt := fun k hk => own_lt hown hk
  bel := hbel.alloc hbel.size _
  ge := hbel.size
theorem pOf_new (wr : World) (p : Nat) (t : TypeId) : pOf (.pointer (some ⟨wr.heap.size, 0, none⟩)) (wr.alloc (.cells #[.int .u64 ((p : Int) + 1)] t)) = p + 1 := by
  unfold pOf
  dsimp only
  rw [cell_at (heap_alloc_new wr _)]
  show ((p : Int) + 1).toNat = p + 1
  omega
theorem pOf_old {wr : World} {B p : Nat} (h : wr.cell? ⟨B, 0, none⟩ = some (.int .u64 (p : Int))) : pOf (.pointer (some ⟨B, 0, none⟩)) wr = p := by
  unfold pOf
  dsimp only
  rw [h]; rfl
set_option maxHeartbeats 8000000 in
set_option maxRecDepth 1000000 in
theorem primes_walk (w : World) : Calls Try.prog 15 #[.int .i64 64] w fun e w' => ∃ v, e = .returned v ∧ w'.ownsRow w.heap.size 36 1 v 64 (P64N.map qcell) ∧ Below w.heap.size w w' := by
  obtain ⟨i0, hi, hz0, hz1, hz2⟩ := info_parts infoQ
  go_enter Try.func15, Try.ntmps15
  go_wp2
  go_loopw [3, 4] (fun v pt wr => ∃ p B : Nat, pt = .pointer (some ⟨B, 0, none⟩) ∧ PrmI w v p B wr) (fun _ pt wr => 400 - pOf pt wr)
  case atStart =>
    refine ⟨2, w.heap.size, rfl, by omega, by omega, ?_, ?_, fun k hk => by simp [Value.ownBlock] at hk, (Below.refl _ w).alloc (Nat.le_refl _) _, Nat.le_refl _⟩
    · rw [heap_alloc_new]; rfl
    · rw [p_start, row_start]
      exact World.ownsRow_nil _ _ _ _
  case round =>
    obtain ⟨p, B, rfl, hI⟩ := hrel
    obtain ⟨h2, h3, hB, hown, hlt, hbel, hge⟩ := hI
    have hrl := row_len h3 h2
    obtain ⟨a, c, rfl, hc⟩ := own_view hrl hown
    have hcell : wr.cell? ⟨B, 0, none⟩ = some (.int .u64 (p : Int)) := by rw [cell_at hB]; rfl
    by_cases hp : p ≤ 311
    · obtain ⟨s1, s2, s3⟩ := p_step h2 hp
      have hcw := conf_walk a (mN p) c (rowP p) p B wr hrl h2 h3 (fun q hq => row_pos hq) (by omega) hcell hc
      have K : Aside (wr.ownsRow w.heap.size 36 1 (.slice a (mN p) c) (mN p) ((rowP p).map qcell)) := hown
      clear hown hc hrl
      by_cases hd : divs p (rowP p) = true
      · rw [hd] at hcw
        go_wp2_with (go_at_call 23; (with_reducible refine hcw.mono ?_); rintro e w' ⟨rfl, rfl⟩)
        have e := s2 hd
        have hK : w'.ownsRow w.heap.size 36 1 (.slice a (mN p) c) (mN (p + 1)) ((rowP (p + 1)).map qcell) := by
          have : rowP (p + 1) = rowP p := by unfold rowP; rw [e]
          rw [e, this]; exact K
        exact ⟨⟨p + 1, w'.heap.size, rfl, prm_next h2 hp hK hbel⟩, by rw [pOf_new, pOf_old hcell]; omega⟩
      · have hd : divs p (rowP p) = false := by simpa using hd
        obtain ⟨e1, e2⟩ := s3 hd
        rw [hd] at hcw
        have Q : Aside (PrmI w (.slice a (mN p) c) p B wr) := ⟨h2, h3, hB, K, hlt, hbel, hge⟩
        go_wp2_with (first
          | (go_at_call 23; (with_reducible refine hcw.mono ?_); rintro e w' ⟨rfl, rfl⟩)
          | (at_builtin; refine wpList_append_own _ rfl _ _ 34 rfl w.heap.size 36 i0 (.int .u64 0) 1 8 Try.underlying34 hi hz0 hz1 hz2 rfl (by decide) _ _ _ rfl (Q.own.alloc _) _ 1 1 [.int .u64 (p : Int)] rfl ?qa ?qb ?qc ?qd ?qe ?qf ?qg))
        case qa => rfl
        case qb =>
          intro j u hj
          have hj0 : j = 0 := by
            have := (List.getElem?_eq_some_iff.1 hj).1
            simpa using this
          subst hj0
          have hu : Value.int .u64 (p : Int) = u := by
            have hj : some (Value.int .u64 (p : Int)) = some u := hj
            injection hj
          have ea : Addr.add ⟨w'.heap.size, 0, none⟩ 0 = ⟨w'.heap.size, 0, none⟩ := by
            unfold Addr.add
            split <;> simp_all
          rw [ea, cell_at (heap_alloc_new w' _), ← hu]; rfl
        case qc => intro u hu; rw [List.mem_singleton.1 hu]; rfl
        case qd => unfold maxLen; omega
        case qe => omega
        case qf => rw [World.size_alloc]; have := hbel.size; omega
        case qg =>
          intro v2 w2 g1 g2 g3
          have hBs : B < w'.heap.size := lt_of_cells hB
          have hne : ∀ k, (Value.slice a (mN p) c).ownBlock = some k → k ≠ B := fun k hk => by have := hlt k hk; omega
          have hB2 : w2.heap[B]? = some (.cells #[.int .u64 (p : Int)] 36) := by
            rw [g2.block B (by rw [World.size_alloc]; omega) (fun e => hne B e.symm rfl), heap_alloc_old _ _ hBs]
            exact hB
          have hc2 : w2.cell? ⟨B, 0, none⟩ = some (.int .u64 (p : Int)) := by rw [cell_at hB2]; rfl
          have hK : w2.ownsRow w.heap.size 36 1 v2 (mN (p + 1)) ((rowP (p + 1)).map qcell) := by
            rw [e1, e2, List.map_append]; exact g1
          have hbel2 : Below w.heap.size w w2 := (hbel.alloc hbel.size _).grown g2 (by rw [World.size_alloc]; have := hbel.size; omega) (fun k hk => (K.lt k hk).1)
          clear g1 g2 g3
          go_wp2
          exact ⟨⟨p + 1, w2.heap.size, rfl, prm_next h2 hp hK hbel2⟩, by rw [pOf_new, pOf_old hcell]; omega⟩
    · have hp : p = 312 := by omega
      subst hp
      have hm : mN 312 = 64 := p_end
      have K : Aside (wr.ownsRow w.heap.size 36 1 (.slice a (mN 312) c) (mN 312) ((rowP 312).map qcell)) := hown
      rw [hm, row_end] at K
      rw [hm]
      clear hown hc hrl
      go_wp2
      go_ret
      exact ⟨_, rfl, K, hbel⟩
theorem F_sha_primes_sound {T : Tab} : SoundFn Try.prog T 15 F_sha_primes_sig ⟨F_sha_primes⟩ := by
  refine sound_of rfl fun F g O xs ls y tmf w args hT hw hlim hls happ hsz hr => ?_
  obtain ⟨(n : Int), xs', rfl, h2⟩ := appF_inv_c (ts := []) happ
  obtain ⟨rfl, h3⟩ := appF_inv_n h2
  have hls' : some [Leaf.d (.int .i64) n] = some ls := hls
  injection hls' with hls'
  subst hls'
  obtain ⟨e0, e1⟩ := rel_int (hr 0)
  rw [args_1 hsz, e0]
  have h3 : cond (n == 64) (some P64) none = some y := h3
  cases hb : n == 64 with
  | false => rw [hb] at h3; cases h3
  | true =>
    rw [hb] at h3
    have hy : P64 = y := by injection h3
    have hn : n = 64 := beq_iff_eq.1 hb
    subst hy
    subst hn
    refine (primes_walk w).mono ?_
    rintro e w' ⟨v, rfl, h1, h2⟩
    have e64 : P64.map (Value.int .u64) = P64N.map qcell := by
      unfold P64
      rw [List.map_map]; rfl
    have hl : P64.length = 64 := by kernel_rfl
    refine own_row (l := P64) hw hlim h2 (by rw [e64, hl]; exact h1) (fun x hx => ?_) rfl rfl
    obtain ⟨q, hq, rfl⟩ := List.mem_map.1 hx
    have := List.all_eq_true.1 (show P64N.all (fun q => decide (q < 312)) = true by kernel_rfl) q hq
    have := of_decide_eq_true this
    exact wfQ' (by omega) (by omega)
end Go.Proofs.Ytgcgdfjldeihkaa
