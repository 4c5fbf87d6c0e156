/- Small words over the conditions of Vc at this program. -/
import Derived.Test.YtnlekdpnjphmfaaProg
import Derived.Test.YtnlekdpnjphmfaaVck
import Derived.KernelRfl
import Derived.Laws.Bits
namespace Go.Proofs.Ytnlekdpnjphmfaa
open Vc
noncomputable def E : Env := ⟨Try.prog, []⟩
theorem cond_t {α : Type} {b : Bool} {x y z : α} (h : b = true) (hz : z = cond b x y) : z = x := by rw [hz, h]; rfl
theorem cond_f {α : Type} {b : Bool} {x y z : α} (h : b = false) (hz : z = cond b x y) : z = y := by rw [hz, h]; rfl
end Go.Proofs.Ytnlekdpnjphmfaa
