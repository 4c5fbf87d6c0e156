/- What stands in the library's own variables when a call begins: out of the row's list and out of the world's shape. -/
import Derived.Test.YtblngdnndkljoaaDoorQLib
import Derived.HandedShaped
import Derived.LaidLaws
import Derived.Shelf.Vars
import Derived.Handed
namespace Go.Proofs.YtblngdnndkljoaaDoor
open Go.RowKit Pv
set_option linter.unusedVariables false
theorem handed_of_laid_shaped {H : Type} {enc : TypeId × Value → H} {a : Assume} {C : Checked} {os : Os} {f : FuncId} {fn : Func} {s : ChangeSpec} {conds : List PathCond} {apart fresh handsOn again : Bool} {X : World → Array Value → Prop}
    (hX : ∀ (w w' : World) (args : Array Value), w.heap = w'.heap → X w args → X w' args)
    (own : ownKnob C.prog.godebug = none) (started : os.Started) (noInit : C.prog.inits.idxOf? f = none) (hfn : C.prog.funcs[f]? = some fn)
    (witness : ∃ (w : World) (tape : Tape) (i : Input), w.os = os ∧ (w.forCall tape i).Shaped C.prog ∧ i.vars = [] ∧ Input.okWide C.prog (w.forCall tape i) .any w.heap.size f i ∧
      ((s.pre enc C.prog fn conds apart (w.forCall tape i).memory i.args ∧ X (w.forCall tape i).memory i.args) ∧ sizedMet enc C.prog fn (OpenSpec.ofChange s) apart (w.forCall tape i).memory i.args) ∧ a.holds C.prog (lone (Frame.enter C.prog f i.args .normal) [] (w.forCall tape i)))
    (contract : ∀ (W : World) (base : Nat) (args : Array Value) (ds gs : List (DataW H)) (before : List MemPlace),
      (∀ (j : Nat) t v, fn.params[j]? = some t → args[j]? = some v → Value.okWide C.prog W .any base t v) →
      DataW.Whole enc C.prog fn.params.toList s.vars apart W args.toList ds gs before → X W args → W.ShapedOpen C.prog →
      Calls C.prog f args W fun e W' => ∃ v, e = .returned v ∧ s.post enc C.prog fn apart fresh handsOn again W args v W') :
    ReturnsInHanded a C os f .any (fun w args => (s.pre enc C.prog fn conds apart w args ∧ X w args) ∧ sizedMet enc C.prog fn (OpenSpec.ofChange s) apart w args) (s.post enc C.prog fn apart fresh handsOn again) := by
  refine returnsInHanded_of_calls own started noInit witness ?_
  intro w tape i _ hsh _ hok hpre hholds
  obtain ⟨_, _, _, fn', hfn', _, _, _, _, hval⟩ := hok
  have e : fn' = fn := Option.some.inj (hfn'.symm.trans hfn)
  subst e
  obtain ⟨⟨⟨ds, gs, before, hw, hc⟩, hx⟩, hz⟩ := hpre
  have hw' := DataW.Whole.of_heap (w' := w.forCall tape i) (by rfl) hw
  refine (contract (w.forCall tape i) w.heap.size i.args ds gs before hval hw' (hX _ _ _ (by rfl) hx) hsh).mono fun e W' ⟨v, he, hp⟩ => ?_
  subst he
  exact ChangeSpec.post_blind hp
theorem err_laid {P : Program} {W : World} {l : List (String × DataW Unit)} {name n : String} {D d : DataW Unit} (hD : D = .iface n d) {g : Nat} {t : TypeId} {ms : Array (String × TypeId)}
    (h : laidMetH P l W) (hl : (l.filter fun x => x.1 == name) = [(name, D)]) (hh : D.handleName? = none) (hg : P.globalNamed name = some g) (hty : (P.globals[g]?).map (·.type) = some t) (ht : P.underlying t = some (.interface ms)) :
    ∃ v, (∃ ty fr, W.heap[g]? = some (.cells #[v] ty fr)) ∧ okErr v := by
  have h1 := laidMetH.filter (fun x => x.1 == name) h
  rw [hl, MakeChecks.laidMetH_plain _ _ _ (by simp [hh])] at h1
  subst hD
  obtain ⟨ps, ⟨g', t', cs, fuel, p, q, hg', ht', hvar, hd, _, _⟩, _⟩ := h1
  obtain rfl := Option.some.inj (hg.symm.trans hg')
  obtain rfl := Option.some.inj (hty.symm.trans ht')
  obtain ⟨_, u, v, hcs, _, _⟩ := iface_of_trod ht hd
  unfold World.var? at hvar
  rw [hg, Option.bind_some] at hvar
  split at hvar
  · rename_i cs' ty fr hc
    injection hvar with hvar
    subst hvar
    obtain rfl : cs' = #[.iface u v] := by
      cases cs'
      simp_all
    exact ⟨_, ⟨ty, fr, hc⟩, .inr ⟨u, v, rfl⟩⟩
  · cases hvar
theorem int_shaped {P : Program} {w : World} {g : Nat} {t : TypeId} {zero : Array Value} {k : IntKind}
    (h : w.ShapedOpen P) (hg : g < P.globals.size)
    (h0 : ((begin P (fun _ _ => 0) default).world.heap[g]?).bind Obj.row? = some (zero, t)) (hz : zero.size = 1)
    (hb : P.buildable t = true) (hc : P.cellTypes P.depth t = some [t]) (hu : P.underlying t = some (.int k)) :
    ∃ m, ∃ ty fr, w.heap[g]? = some (.cells #[.int k m] ty fr) := by
  obtain ⟨m, hm⟩ := cell_of_shapedOpen_int h hg h0 hz hb hc hu
  obtain ⟨cs, hh, hs, _⟩ := h.1 g zero t hg h0
  rw [cell_at hh] at hm
  obtain ⟨al⟩ := cs
  match al, hs, hm with
  | [v], _, hm =>
    have hm : some v = some (.int k m) := hm
    injection hm with hm
    subst hm
    exact ⟨m, _, _, hh⟩
  | [], hs, _ => rw [hz] at hs; simp at hs
  | _ :: _ :: _, hs, _ => rw [hz] at hs; simp at hs
end Go.Proofs.YtblngdnndkljoaaDoor
