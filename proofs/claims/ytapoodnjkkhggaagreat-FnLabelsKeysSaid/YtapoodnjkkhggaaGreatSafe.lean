/-
  What 'safe' does: it carries a closure out; true if the closure returns, false if it panics.
-/
import Derived.Test.YtapoodnjkkhggaaGreatRows
import Derived.WalkKit
import Derived.WalkSpells
import Derived.WalkLawsBesides
import Derived.Laws.Externs
import Derived.Below
import Derived.Defers
import Derived.Recover
import Derived.Laws.Pointers
import Derived.Deep.RegionHeld3
namespace Go.Proofs.YtapoodnjkkhggaaGreat
set_option linter.unusedSimpArgs false
set_option linter.unusedVariables false
open Go.RowKit

theorem safe1_panicking (p : Addr) (x : Bool) (u : TypeId) (pv : Value) (older : List PanicEntry) (w : World) (hc : w.cell? p = some (.bool x)) (hz : w.frozen? p = false) :
    CallsD Tryz.prog 100 #[.pointer (some p)] (.panicking ({ v := .iface u pv, recovered := false } :: older)) w fun e u' w' =>
      e = .returned (.tuple #[]) ∧ u' = .panicking ({ v := .iface u pv, recovered := true } :: older) ∧ w' = w.setCell p (.bool false) := by
  refine callsD_of_wpS Tryz.func100 rfl fun c₀ cs hu => ?_
  apply wpS_region
  simp [wpOpsS, go_sem, recoverD, hu, Tryz.ntmps100, hc, hz, bodyPostS, results, Tryz.results100]

theorem safe1_idle (p : Addr) (x : Bool) (w : World) (hc : w.cell? p = some (.bool x)) (hz : w.frozen? p = false) :
    CallsD Tryz.prog 100 #[.pointer (some p)] .returning w fun e u' w' => e = .returned (.tuple #[]) ∧ u' = .returning ∧ w' = w.setCell p (.bool true) := by
  refine callsD_of_wpS Tryz.func100 rfl fun c₀ cs hu => ?_
  apply wpS_region
  simp [wpOpsS, go_sem, recoverD, hu, Tryz.ntmps100, hc, hz, bodyPostS, results, Tryz.results100]
  cases c₀
  simp_all

theorem safe_returns (g : FuncId) (caps : Array Value) (w : World) (R : World → Prop) (hg : ∀ w, (callFunc g caps).run Tryz.prog w = .ok (.enter g caps) w)
    (h : Calls Tryz.prog g caps (w.alloc (.cells #[.bool false] 4)) fun e w' => e = .returned (.tuple #[]) ∧ R w' ∧ w'.cell? ⟨w.heap.size, 0, none⟩ = some (.bool false) ∧ w'.frozen? ⟨w.heap.size, 0, none⟩ = false) :
    Calls Tryz.prog 49 #[.func (.func g) #[] caps] w fun e w' => e = .returned (.bool true) ∧ ∃ w1, R w1 ∧ w' = (w1.setCell ⟨w.heap.size, 0, none⟩ (.bool true)).setCell ⟨w.heap.size, 0, none⟩ (.bool true) := by
  have hmf : ∀ (fn : Fn) (first cap : Array Value) (w : World), (Instr.makeFunc fn first cap).run Tryz.prog w = .ok (.func fn first cap) w := fun _ _ _ _ => rfl
  go_enter_defers Tryz.func49, Tryz.ntmps49
  go_wp2_with fail
  refine h.mono ?_
  rintro e w1 ⟨rfl, hR, hc, hz⟩
  go_wp2_with fail
  refine leaves_cons (f := 100) (args := #[.pointer (some ⟨w.heap.size, 0, none⟩)]) (by simp) (by simp [go_sem]) ?_
  refine (safe1_idle ⟨w.heap.size, 0, none⟩ true _ ?_ ?_).mono ?_
  · simp [go_sem, hc]
  · simp [go_sem, hz]
  rintro e u' w'' ⟨rfl, rfl, rfl⟩
  simp [Leaves, settle, results, Tryz.results49, go_sem, hc]
  exact ⟨w1, hR, rfl⟩

theorem safe_panics (g : FuncId) (caps : Array Value) (w : World) (R : World → Prop) (hg : ∀ w, (callFunc g caps).run Tryz.prog w = .ok (.enter g caps) w)
    (h : Calls Tryz.prog g caps (w.alloc (.cells #[.bool false] 4)) fun e w' => (∃ u pv, e = .panicked [{ v := .iface u pv, recovered := false }]) ∧ R w' ∧ w'.cell? ⟨w.heap.size, 0, none⟩ = some (.bool false) ∧ w'.frozen? ⟨w.heap.size, 0, none⟩ = false) :
    Calls Tryz.prog 49 #[.func (.func g) #[] caps] w fun e w' => e = .returned (.bool false) ∧ ∃ w1, R w1 ∧ w' = w1.setCell ⟨w.heap.size, 0, none⟩ (.bool false) := by
  have hmf : ∀ (fn : Fn) (first cap : Array Value) (w : World), (Instr.makeFunc fn first cap).run Tryz.prog w = .ok (.func fn first cap) w := fun _ _ _ _ => rfl
  go_enter_defers Tryz.func49, Tryz.ntmps49
  go_wp2_with fail
  refine h.mono ?_
  rintro e w1 ⟨⟨u, pv, rfl⟩, hR, hc, hz⟩
  go_wp2_with fail
  refine leaves_cons (f := 100) (args := #[.pointer (some ⟨w.heap.size, 0, none⟩)]) (by simp) (by simp [go_sem]) ?_
  refine (safe1_panicking ⟨w.heap.size, 0, none⟩ false u pv [] _ ?_ ?_).mono ?_
  · simp [go_sem, hc]
  · simp [go_sem, hz]
  rintro e u' w'' ⟨rfl, rfl, rfl⟩
  simp [Leaves, settle, results, Tryz.results49, go_sem, hc]
  exact ⟨w1, hR, rfl⟩

/-- a closure that leaves its answer in a variable outside -/
theorem safe_store (g : FuncId) (caps : Array Value) (W : World) (pv : Nat) (u x : Value) (hc : W.cell? ⟨pv, 0, none⟩ = some u) (hz : W.frozen? ⟨pv, 0, none⟩ = false) (hg : ∀ w, (callFunc g caps).run Tryz.prog w = .ok (.enter g caps) w)
    (h : Calls Tryz.prog g caps (W.alloc (.cells #[.bool false] 4)) fun e w' => e = .returned (.tuple #[]) ∧ ∃ w1, Below (W.heap.size + 1) (W.alloc (.cells #[.bool false] 4)) w1 ∧ w' = w1.setCell ⟨pv, 0, none⟩ x) :
    Calls Tryz.prog 49 #[.func (.func g) #[] caps] W fun e w' => e = .returned (.bool true) ∧ W.grownBy w' (some pv) ∧ w'.cell? ⟨pv, 0, none⟩ = some x ∧ w'.frozen? ⟨pv, 0, none⟩ = false := by
  have hlt : pv < W.heap.size := World.block_lt_of_cell? W ⟨pv, 0, none⟩ hc
  refine (safe_returns g caps W (fun w' => ∃ w1, Below (W.heap.size + 1) (W.alloc (.cells #[.bool false] 4)) w1 ∧ w' = w1.setCell ⟨pv, 0, none⟩ x) hg (h.mono ?_)).mono ?_
  · rintro e w' ⟨rfl, w1, hb, rfl⟩
    refine ⟨rfl, ⟨w1, hb, rfl⟩, ?_, ?_⟩
    · rw [World.cell?_setCell_far _ _ _ _ (by simp; omega)]
      exact (hb.cell (p := ⟨W.heap.size, 0, none⟩) (show W.heap.size < W.heap.size + 1 by omega)).trans (by simp)
    · have := (hb.frozen (p := ⟨W.heap.size, 0, none⟩) (show W.heap.size < W.heap.size + 1 by omega))
      simpa using this
  · rintro e w' ⟨rfl, _, ⟨w1, hb, rfl⟩, rfl⟩
    have hb0 : Below W.heap.size W w1 := ((Below.refl W.heap.size W).alloc (Nat.le_refl _) _).trans (hb.mono (by omega))
    have c1 := (hb0.cell (p := ⟨pv, 0, none⟩) hlt).trans hc
    have z1 := (hb0.frozen (p := ⟨pv, 0, none⟩) hlt).trans hz
    refine ⟨rfl, ⟨hb0.os, hb0.tape, hb0.output, ?_, fun k hk hn => ?_⟩, ?_, ?_⟩
    · have := hb0.size
      simpa [World.setCell] using this
    · have hn' : k ≠ pv := fun e => hn (by simp [e])
      rw [Below.heap_setCell _ _ _ _ (by simp; omega), Below.heap_setCell _ _ _ _ (by simp; omega), Below.heap_setCell _ _ _ _ hn']
      exact hb0.block k hk
    · rw [World.cell?_setCell_far _ _ _ _ (by simp; omega), World.cell?_setCell_far _ _ _ _ (by simp; omega)]
      exact World.cell?_setCell_same _ _ _ c1
    · simpa using z1
end Go.Proofs.YtapoodnjkkhggaaGreat
