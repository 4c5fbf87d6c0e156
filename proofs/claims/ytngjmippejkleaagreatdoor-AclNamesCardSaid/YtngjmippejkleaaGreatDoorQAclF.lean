/- wlvlaw19.first: without a line nobody is allowed. By hand, at this program. -/
import Derived.Test.YtngjmippejkleaaGreatDoorQl
import Derived.Test.YtngjmippejkleaaGreatDoorProg
import Derived.LoopTactic
import Derived.Handy
import Derived.RegionTactic
import Derived.Below
import Derived.Carry
import Derived.Lib.Walk
import Derived.Laws.AppendOwn
namespace Go.Proofs.YtngjmippejkleaaGreatDoor
open Go.RowKit Pv
set_option linter.unusedVariables false
def conf0 : Array Value := #[.int .i64 16, .int .i64 100, .int .i64 65535, .int .i64 1000, .int .i64 1000000, .int .i64 1000, .int .i64 16384, .slice none 0 0]
set_option maxHeartbeats 4000000 in
set_option maxRecDepth 1000000 in
theorem conf_first (w : World) : Calls Tryz.prog 12 #[] w fun e w' => e = .returned (.agg conf0) ∧ Below w.heap.size w w' := by
  go_enter Tryz.func12, Tryz.ntmps12
  go_wp2
  go_returns
  exact ⟨rfl, (Below.refl _ w).alloc (Nat.le_refl _) _⟩
def W0 (w : World) : World := (((w.alloc (.cells #[.int .i64 0, .int .i64 0, .int .i64 0, .int .i64 0, .int .i64 0, .int .i64 0, .int .i64 0, .slice none 0 0] 40)).alloc (.cells conf0 40)).alloc (.map #[] 0)).alloc (.cells (conf0.push (.map (some (w.heap.size + 1 + 1)))) 55)
set_option maxHeartbeats 4000000 in
set_option maxRecDepth 1000000 in
theorem parse_nil (w : World) : Calls Tryz.prog 8 #[.slice none 0 0] w fun e w' => e = .returned (.tuple #[.agg conf0, .int .i64 0]) ∧ Below w.heap.size w w' := by
  have hmm := @run_makeMap Tryz.prog
  go_enter Tryz.func8, Tryz.ntmps8
  go_wp2
  go_loopw [14] (fun v wr => v = .int .i64 0 ∧ wr = W0 w) (fun _ _ => 0)
  case atStart => exact ⟨rfl, rfl⟩
  case round =>
    obtain ⟨rfl, rfl⟩ := hrel
    unfold W0 conf0
    go_wp2
    go_returns
    refine ⟨rfl, ?_⟩
    repeat (first | exact Below.refl _ _ | refine Below.alloc ?_ (by first | omega | (simp only [World.size_alloc]; omega)) _)
theorem store_cplx {P : Program} {w : World} (a : Addr) (m : Mode) (k : FloatKind) (x y : Nat) : (store a (.complex k x y) m).run P w = stored P w a (.complex k x y) m := run_store P w a _ m rfl
def user0 : Array Value := #[.string ⟨#[]⟩, .slice none 0 0, .slice none 0 0, .int .i64 0, .complex .f64 0 0, .slice none 0 0]
set_option maxHeartbeats 4000000 in
set_option maxRecDepth 1000000 in
theorem find_nil (u : ByteArray) (w : World) : Calls Tryz.prog 11 #[.agg conf0, .string u] w fun e w' => e = .returned (.tuple #[.agg user0, .bool false]) ∧ Below w.heap.size w w' := by
  have hsc := @store_cplx Tryz.prog
  unfold conf0
  go_enter Tryz.func11, Tryz.ntmps11
  go_wp2
  go_loopw [11] (fun v wr => v = .int .i64 0 ∧ wr = (w.alloc (.cells conf0 40)).alloc (.cells user0 37)) (fun _ _ => 0)
  case atStart => exact ⟨rfl, rfl⟩
  case round =>
    obtain ⟨rfl, rfl⟩ := hrel
    unfold conf0 user0
    go_wp2
    go_returns
    refine ⟨rfl, ?_⟩
    repeat (first | exact Below.refl _ _ | refine Below.alloc ?_ (by first | omega | (simp only [World.size_alloc]; omega)) _)
set_option maxHeartbeats 4000000 in
set_option maxRecDepth 1000000 in
theorem allowed_nil (u h1 h2 ip : ByteArray) (w : World) : Calls Tryz.prog 7 #[.agg conf0, .string u, .agg #[.string h1, .string h2], .string ip, .int .i64 80] w fun e w' => e = .returned (.bool false) ∧ Below w.heap.size w w' := by
  have hsc := @store_cplx Tryz.prog
  unfold conf0
  go_enter Tryz.func7, Tryz.ntmps7
  go_wp2_with (go_at_call 11; refine (find_nil u _).mono ?_; rintro e w' ⟨rfl, hb⟩; unfold user0)
  go_loopw [24] (fun v wr => v = .int .i64 0 ∧ Below w.heap.size w wr) (fun _ _ => 0)
  case atStart =>
    refine ⟨rfl, ?_⟩
    have hb' : Below w.heap.size w w' := by
      refine Below.trans ?_ (hb.mono (by simp only [World.size_alloc]; omega))
      repeat (first | exact Below.refl _ _ | refine Below.alloc ?_ (by first | omega | (simp only [World.size_alloc]; omega)) _)
    exact hb'.alloc hb'.size _
  case round =>
    obtain ⟨rfl, hb2⟩ := hrel
    go_wp2
    go_ret
    exact ⟨rfl, hb2⟩
set_option maxHeartbeats 4000000 in
set_option maxRecDepth 1000000 in
theorem first_calls (w : World) : Calls Tryz.prog 5 #[] w fun e w' => e = .returned (.bool true) ∧ Below w.heap.size w w' := by
  go_enter Tryz.func5, Tryz.ntmps5
  go_wp2_with (first | (go_at_call 8; refine (parse_nil _).mono ?_; rintro e w1 ⟨rfl, hb⟩; unfold conf0) | (go_at_call 7; refine (allowed_nil _ _ _ _ _).mono ?_; rintro e w2 ⟨rfl, hb2⟩))
  go_ret
  exact ⟨rfl, (hb.alloc hb.size _).trans (hb2.mono (by have := hb.size; simp only [World.size_alloc]; omega))⟩
def F_wlvlaw19_first_sig : Sig := ⟨[], [(false, [.d .bool])]⟩
def F_wlvlaw19_first : Option Bool := some true
theorem F_wlvlaw19_first_sound {T : Tab} : SoundFn Tryz.prog T 5 F_wlvlaw19_first_sig ⟨F_wlvlaw19_first⟩ := by
  refine sound_d rfl fun F g O xs ls y tmf w args hT hls happ hsz hr => ?_
  have hxs : xs = [] := by
    cases xs with
    | nil => rfl
    | cons _ _ => cases happ
  subst hxs
  have happ : some true = some y := happ
  injection happ with hy
  have ha : args = #[] := Array.eq_empty_of_size_eq_zero hsz
  subst ha
  refine (first_calls w).mono ?_
  rintro e w' ⟨rfl, hb⟩
  refine ⟨[.bool true], [.d .bool true], rfl, rfl, by rw [← hy]; rfl, hb, fun i hi => ?_⟩
  match i, hi with
  | 0, _ => exact ⟨[.bool true], ⟨_, [], rfl, rfl, rfl⟩, rfl⟩
end Go.Proofs.YtngjmippejkleaaGreatDoor
