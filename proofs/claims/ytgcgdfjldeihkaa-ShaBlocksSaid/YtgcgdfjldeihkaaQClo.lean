/- slices.Clone of bytes: by hand. -/
import Derived.Test.YtgcgdfjldeihkaaQOwn
import Derived.Test.YtgcgdfjldeihkaaQShaD
import Derived.Shelf.Bytes.SlClone
namespace Go.Proofs.Ytgcgdfjldeihkaa
open Go.RowKit Go.Lib Pv
set_option linter.unusedVariables false

set_option maxHeartbeats 4000000 in
set_option maxRecDepth 1000000 in
theorem scl_at (a : Addr) (n c : Nat) (l : List Int) (w : World) (hl : l.length = n) (hbig : n ≤ 140737488355328) (hc : ∀ (i : Nat) x, l[i]? = some x → w.cell? (a.add i) = some (.int .u8 x)) :
    Calls Try.prog 26 #[.slice (some a) n c] w fun e w' => ∃ v', e = .returned v' ∧ w'.ownsRow w.heap.size 5 1 v' n (l.map (Value.int .u8)) ∧ Below w.heap.size w w' := by
  obtain ⟨i0, hi, hz0, hz1, hz2⟩ := info_parts infoU
  have q22 : ∀ (w : World) (a : Option Addr) (n c n' c' : Nat), (binOp .eql 22 (.slice a n c) (.slice none n' c')).run Try.prog w = .ok (.bool a.isNone) w := fun w a n c n' c' => Lib.run_eql_slice_nil w _ _ a n c n' c' Try.underlying22
  have A : Aside (∀ (i : Nat) x, l[i]? = some x → w.cell? (a.add i) = some (.int .u8 x)) := hc
  clear hc
  go_enter Try.func26, Try.ntmps26
  go_wp2_with (at_builtin; refine wpList_append_own _ rfl _ _ 22 rfl w.heap.size 5 i0 (.int .u8 0) 1 1 Try.underlying22 hi hz0 hz1 hz2 rfl (by decide) _ _ _ rfl (World.ownsRow_made w #[] 0 (Nat.le_refl _) (Nat.zero_le _) rfl) a n c (l.map (Value.int .u8)) rfl ?qc1 ?qc2 ?qc3 ?qc4 ?qc5 ?qc6 ?_)
  case qc1 => simp; omega
  case qc2 =>
    intro j u hj
    rw [List.getElem?_map] at hj
    obtain ⟨x, hx, rfl⟩ := Option.map_eq_some_iff.1 hj
    exact Lib.cell?_alloc_some _ (A.out j x hx)
  case qc3 => intro u hu; obtain ⟨x, _, rfl⟩ := List.mem_map.1 hu; rfl
  case qc4 => unfold maxLen; omega
  case qc5 => omega
  case qc6 => simp
  intro v' w1 hown hgrow hnil
  go_wp2
  go_ret
  exact ⟨v', rfl, by simpa using hown, ((Below.refl _ w).alloc (Nat.le_refl _) _).grown hgrow (by simp) (by intro k hk; simp [Value.ownBlock] at hk; omega)⟩
set_option maxHeartbeats 4000000 in
theorem scl_nil (n c : Nat) (w : World) : Calls Try.prog 26 #[.slice none n c] w fun e w' => e = .returned (.slice none 0 0) ∧ w' = w := by
  have q22 : ∀ (w : World) (a : Option Addr) (n c n' c' : Nat), (binOp .eql 22 (.slice a n c) (.slice none n' c')).run Try.prog w = .ok (.bool a.isNone) w := fun w a n c n' c' => Lib.run_eql_slice_nil w _ _ a n c n' c' Try.underlying22
  go_enter Try.func26, Try.ntmps26
  go_wp2
  go_ret
  exact ⟨rfl, rfl⟩
theorem F_slices_Clone_byte_byte_sound {T : Tab} : SoundFn Try.prog T 26 F_slices_Clone_byte_byte_sig ⟨F_slices_Clone_byte_byte⟩ := by
  refine sound_of rfl fun F g O xs ls y tmf w args hT hw hlim hls happ hsz hr => ?_
  obtain ⟨(l : List Int), xs', rfl, h2⟩ := appF_inv_c (ts := []) happ
  obtain ⟨rfl, h3⟩ := appF_inv_n h2
  have hls' : some [Leaf.d (.sl (.int .u8)) l] = some ls := hls
  injection hls' with hls'
  subst hls'
  obtain ⟨a, n, c, e0, e1, e2, e3, e4, e5, e6⟩ := rel_ints (hr 0)
  rw [args_1 hsz, e0]
  have h3 : cond (Nat.ble l.length 100000000) (some l) none = some y := h3
  cases hb : Nat.ble l.length 100000000 with
  | false => rw [hb] at h3; cases h3
  | true =>
    rw [hb] at h3
    have hy : l = y := by injection h3
    have hb := Nat.le_of_ble_eq_true hb
    subst hy
    cases a with
    | none =>
      have hl := e6 rfl
      refine (scl_nil n c w).mono ?_
      rintro e w' ⟨rfl, rfl⟩
      exact own_row (l := l) hw hlim (Below.refl _ _) (by rw [hl]; exact World.ownsRow_nil _ _ _ _) e4 rfl rfl
    | some ad =>
      refine (scl_at ad n c l w e1 (by omega) (e5 ad rfl)).mono ?_
      rintro e w' ⟨v, rfl, h1, h2⟩
      exact own_row (l := l) hw hlim h2 (by rw [e1]; exact h1) e4 rfl rfl

end Go.Proofs.Ytgcgdfjldeihkaa
