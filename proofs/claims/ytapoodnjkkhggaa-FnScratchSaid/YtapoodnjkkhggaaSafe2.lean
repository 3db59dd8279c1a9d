/-
  'safe' over a closure that writes some blocks alone.
-/
import Derived.Test.YtapoodnjkkhggaaOwn
import Derived.Test.YtapoodnjkkhggaaSafe
namespace Go.Proofs.Ytapoodnjkkhggaa
set_option linter.unusedSimpArgs false
set_option linter.unusedVariables false
open Go.RowKit

theorem hmk (fn : Fn) (first cap : Array Value) (w : World) : (Instr.makeFunc fn first cap).run Try.prog w = .ok (.func fn first cap) w := rfl
theorem safe_ok (g : FuncId) (caps : Array Value) (W : World) (R : World → Prop) (S : Nat → Prop) (hg : ∀ w, (callFunc g caps).run Try.prog w = .ok (.enter g caps) w) (hS : ¬ S W.heap.size)
    (h : Calls Try.prog g caps (W.alloc (.cells #[.bool false] 4)) fun e w' => e = .returned (.tuple #[]) ∧ R w' ∧ Chg S (W.alloc (.cells #[.bool false] 4)) w') :
    Calls Try.prog 22 #[.func (.func g) #[] caps] W fun e w' => e = .returned (.bool true) ∧ ∃ w1, R w1 ∧ Chg S (W.alloc (.cells #[.bool false] 4)) w1 ∧ Chg (fun k => k = W.heap.size) w1 w' := by
  refine (safe_returns g caps W (fun w' => R w' ∧ Chg S (W.alloc (.cells #[.bool false] 4)) w') hg (h.mono ?_)).mono ?_
  · rintro e w' ⟨he, hR, hc⟩
    have hb := (Blk.new W [.bool false] 4).chg hc hS
    exact ⟨he, ⟨hR, hc⟩, hb.cell 0, hb.free 0⟩
  · rintro e w' ⟨he, w1, ⟨hR, hc⟩, rfl⟩
    exact ⟨he, w1, hR, hc, (chg_set w1 W.heap.size 0 (.bool true)).trans (chg_set _ W.heap.size 0 (.bool true))⟩
end Go.Proofs.Ytapoodnjkkhggaa
