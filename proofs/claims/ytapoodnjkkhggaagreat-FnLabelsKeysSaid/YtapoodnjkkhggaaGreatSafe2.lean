/-
  'safe' over a closure that writes some blocks alone.
-/
import Derived.Test.YtapoodnjkkhggaaGreatOwn
import Derived.Test.YtapoodnjkkhggaaGreatSafe
namespace Go.Proofs.YtapoodnjkkhggaaGreat
set_option linter.unusedSimpArgs false
set_option linter.unusedVariables false
open Go.RowKit

theorem hmk (fn : Fn) (first cap : Array Value) (w : World) : (Instr.makeFunc fn first cap).run Tryz.prog w = .ok (.func fn first cap) w := rfl
theorem safe_ok (g : FuncId) (caps : Array Value) (W : World) (R : World → Prop) (S : Nat → Prop) (hg : ∀ w, (callFunc g caps).run Tryz.prog w = .ok (.enter g caps) w) (hS : ¬ S W.heap.size)
    (h : Calls Tryz.prog g caps (W.alloc (.cells #[.bool false] 4)) fun e w' => e = .returned (.tuple #[]) ∧ R w' ∧ Chg S (W.alloc (.cells #[.bool false] 4)) w') :
    Calls Tryz.prog 49 #[.func (.func g) #[] caps] W fun e w' => e = .returned (.bool true) ∧ ∃ w1, R w1 ∧ Chg S (W.alloc (.cells #[.bool false] 4)) w1 ∧ Chg (fun k => k = W.heap.size) w1 w' := by
  refine (safe_returns g caps W (fun w' => R w' ∧ Chg S (W.alloc (.cells #[.bool false] 4)) w') hg (h.mono ?_)).mono ?_
  · rintro e w' ⟨he, hR, hc⟩
    have hb := (Blk.new W [.bool false] 4).chg hc hS
    exact ⟨he, ⟨hR, hc⟩, hb.cell 0, hb.free 0⟩
  · rintro e w' ⟨he, w1, ⟨hR, hc⟩, rfl⟩
    exact ⟨he, w1, hR, hc, (chg_set w1 W.heap.size 0 (.bool true)).trans (chg_set _ W.heap.size 0 (.bool true))⟩
end Go.Proofs.YtapoodnjkkhggaaGreat
