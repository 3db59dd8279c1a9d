/-
  What 'safe' does: it carries a closure out; true if the closure returns, false if it panics.
-/
import Derived.Test.YtdinjpemofkdaaaRows
import Derived.WalkKit
import Derived.WalkSpells
import Derived.WalkLawsBesides
import Derived.Laws.Externs
import Derived.Below
import Derived.Defers
import Derived.Recover
import Derived.Laws.Pointers
namespace Go.Proofs.Ytdinjpemofkdaaa
open Go.RowKit

theorem safe1_panicking (p : Addr) (x : Bool) (u : TypeId) (pv : Value) (older : List PanicEntry) (w : World) (hc : w.cell? p = some (.bool x)) (hz : w.frozen? p = false) :
    CallsD Try.prog 51 #[.pointer (some p)] (.panicking ({ v := .iface u pv, recovered := false } :: older)) w fun e u' w' =>
      e = .returned (.tuple #[]) ∧ u' = .panicking ({ v := .iface u pv, recovered := true } :: older) ∧ w' = w.setCell p (.bool false) := by
  refine callsD_of_wpS Try.func51 rfl fun c₀ cs hu => ?_
  apply wpS_region
  simp [wpOpsS, go_sem, recoverD, hu, Try.ntmps51, hc, hz, bodyPostS, results, Try.results51]

theorem safe1_idle (p : Addr) (x : Bool) (w : World) (hc : w.cell? p = some (.bool x)) (hz : w.frozen? p = false) :
    CallsD Try.prog 51 #[.pointer (some p)] .returning w fun e u' w' => e = .returned (.tuple #[]) ∧ u' = .returning ∧ w' = w.setCell p (.bool true) := by
  refine callsD_of_wpS Try.func51 rfl fun c₀ cs hu => ?_
  apply wpS_region
  simp [wpOpsS, go_sem, recoverD, hu, Try.ntmps51, hc, hz, bodyPostS, results, Try.results51]
  cases c₀
  simp_all

theorem safe_returns (g : FuncId) (caps : Array Value) (w : World) (R : World → Prop) (hg : ∀ w, (callFunc g caps).run Try.prog w = .ok (.enter g caps) w)
    (h : Calls Try.prog g caps (w.alloc (.cells #[.bool false] 4)) fun e w' => e = .returned (.tuple #[]) ∧ R w' ∧ w'.cell? ⟨w.heap.size, 0, none⟩ = some (.bool false) ∧ w'.frozen? ⟨w.heap.size, 0, none⟩ = false) :
    Calls Try.prog 35 #[.func (.func g) #[] caps] w fun e w' => e = .returned (.bool true) ∧ ∃ w1, R w1 ∧ w' = (w1.setCell ⟨w.heap.size, 0, none⟩ (.bool true)).setCell ⟨w.heap.size, 0, none⟩ (.bool true) := by
  have hmf : ∀ (fn : Fn) (first cap : Array Value) (w : World), (Instr.makeFunc fn first cap).run Try.prog w = .ok (.func fn first cap) w := fun _ _ _ _ => rfl
  go_enter_defers Try.func35, Try.ntmps35
  go_wp2_with fail
  refine h.mono ?_
  rintro e w1 ⟨rfl, hR, hc, hz⟩
  go_wp2_with fail
  refine leaves_cons (f := 51) (args := #[.pointer (some ⟨w.heap.size, 0, none⟩)]) (by simp) (by simp [go_sem]) ?_
  refine (safe1_idle ⟨w.heap.size, 0, none⟩ true _ ?_ ?_).mono ?_
  · simp [go_sem, hc]
  · simp [go_sem, hz]
  rintro e u' w'' ⟨rfl, rfl, rfl⟩
  simp [Leaves, settle, results, Try.results35, go_sem, hc]
  exact ⟨w1, hR, rfl⟩

theorem safe_panics (g : FuncId) (caps : Array Value) (w : World) (R : World → Prop) (hg : ∀ w, (callFunc g caps).run Try.prog w = .ok (.enter g caps) w)
    (h : Calls Try.prog g caps (w.alloc (.cells #[.bool false] 4)) fun e w' => (∃ u pv, e = .panicked [{ v := .iface u pv, recovered := false }]) ∧ R w' ∧ w'.cell? ⟨w.heap.size, 0, none⟩ = some (.bool false) ∧ w'.frozen? ⟨w.heap.size, 0, none⟩ = false) :
    Calls Try.prog 35 #[.func (.func g) #[] caps] w fun e w' => e = .returned (.bool false) ∧ ∃ w1, R w1 ∧ w' = w1.setCell ⟨w.heap.size, 0, none⟩ (.bool false) := by
  have hmf : ∀ (fn : Fn) (first cap : Array Value) (w : World), (Instr.makeFunc fn first cap).run Try.prog w = .ok (.func fn first cap) w := fun _ _ _ _ => rfl
  go_enter_defers Try.func35, Try.ntmps35
  go_wp2_with fail
  refine h.mono ?_
  rintro e w1 ⟨⟨u, pv, rfl⟩, hR, hc, hz⟩
  go_wp2_with fail
  refine leaves_cons (f := 51) (args := #[.pointer (some ⟨w.heap.size, 0, none⟩)]) (by simp) (by simp [go_sem]) ?_
  refine (safe1_panicking ⟨w.heap.size, 0, none⟩ false u pv [] _ ?_ ?_).mono ?_
  · simp [go_sem, hc]
  · simp [go_sem, hz]
  rintro e u' w'' ⟨rfl, rfl, rfl⟩
  simp [Leaves, settle, results, Try.results35, go_sem, hc]
  exact ⟨w1, hR, rfl⟩
end Go.Proofs.Ytdinjpemofkdaaa
