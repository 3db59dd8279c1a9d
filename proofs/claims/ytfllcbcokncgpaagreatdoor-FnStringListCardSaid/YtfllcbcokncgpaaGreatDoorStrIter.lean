/-
  An iterator over strings: NewStringListIter, Next, At.
-/
import Derived.Test.YtfllcbcokncgpaaGreatDoorStrs
namespace Go.Proofs.YtfllcbcokncgpaaGreatDoor
set_option linter.unusedSimpArgs false
set_option linter.unusedVariables false
open Go.RowKit

abbrev SI : TypeId := 137
abbrev PSI : TypeId := 135
theorem siN (t : World) (g : Nat) : (method 325 PSI (.pointer (some ⟨g, 0, none⟩)) "Next").run Tryz.prog t = .ok (157, .pointer (some ⟨g, 0, none⟩)) t := by kernel_rfl
theorem siR (t : World) (g : Nat) (nm : String) : (receiverAt PSI (.val (.pointer (some ⟨g, 0, none⟩))) false (some nm)).run Tryz.prog t = (loadVar SI ⟨g, 0, none⟩).run Tryz.prog t := by kernel_rfl
theorem siM : ∃ i m, Tryz.prog.info? PSI = some i ∧ i.methods.find? (fun x => x.name == "At") = some m ∧ m.path = #[] ∧ m.func = some (155, false) := by
  have h : (Tryz.prog.info? PSI).map (fun i => (i.methods.find? (fun x => x.name == "At")).map fun m => (m.path, m.func)) = some (some (#[], some (155, false))) := by kernel_rfl
  cases h1 : Tryz.prog.info? PSI with
  | none => rw [h1] at h; cases h
  | some i =>
    rw [h1] at h
    simp only [Option.map_some, Option.some.injEq] at h
    cases h2 : i.methods.find? (fun x => x.name == "At") with
    | none => rw [h2] at h; cases h
    | some m =>
      rw [h2] at h
      simp only [Option.map_some, Option.some.injEq, Prod.mk.injEq] at h
      exact ⟨i, m, rfl, h2, h.1, h.2⟩
theorem siA (t : World) (g : Nat) (a : Option Addr) (n c : Nat) (s : ByteArray) (hI : Blk t g [.slice a n c, .string s] SI) : (method 325 PSI (.pointer (some ⟨g, 0, none⟩)) "At").run Tryz.prog t = .ok (155, .agg #[.slice a n c, .string s]) t := by
  obtain ⟨i, m, h1, h2, h3, h4⟩ := siM
  obtain ⟨q, hq⟩ : ∃ q, 325 = q + 1 := ⟨_, rfl⟩
  have hti : (typeInfo PSI).run Tryz.prog t = .ok i t := by simp [typeInfo, h1]
  have hl := run_loadVar_row (P := Tryz.prog) t g SI SI #[.slice a n c, .string s] (0, 0) _ hI Tryz.underlying137 rfl (by kernel_rfl)
  have hr := fun nm => (siR t g nm).trans hl
  rw [hq]
  unfold method
  simp [hti, h2, h3, h4, follow, hr, Result.andThen]
set_option maxRecDepth 100000 in
theorem newIter_any (a : Option Addr) (n c : Nat) (w : World) :
    Calls Tryz.prog 44 #[.slice a n c] w fun e w' => e = .returned (.iface PSI (.pointer (some ⟨w.heap.size, 0, none⟩))) ∧ w' = w.alloc (.cells #[.slice a n c, .string ⟨#[]⟩] SI) := by
  go_enter Tryz.func44, Tryz.ntmps44
  go_wp2_with fail
  go_ret
  exact ⟨rfl, rfl⟩
set_option maxRecDepth 100000 in
theorem siAt_any (a : Option Addr) (n c : Nat) (s : ByteArray) (w : World) :
    Calls Tryz.prog 155 #[.agg #[.slice a n c, .string s]] w fun e w' => e = .returned (.string s) ∧ Below w.heap.size w w' := by
  have hb := below_new w (.cells #[.slice a n c, .string s] SI)
  go_enter Tryz.func155, Tryz.ntmps155
  go_wp2_with fail
  go_ret
  exact ⟨rfl, hb⟩
set_option maxRecDepth 100000 in
set_option maxHeartbeats 2000000 in
theorem siNext_none (I : Nat) (a : Option Addr) (c : Nat) (s : ByteArray) (w : World) (hI : Blk w I [.slice a 0 c, .string s] SI) :
    Calls Tryz.prog 157 #[.pointer (some ⟨I, 0, none⟩)] w fun e w' => e = .returned (.bool false) ∧ w' = w := by
  have c0 := hI.cell 0
  go_enter Tryz.func157, Tryz.ntmps157
  go_wp2_with fail
  go_ret
  exact ⟨rfl, rfl⟩
set_option maxRecDepth 100000 in
set_option maxHeartbeats 2000000 in
theorem siNext_some (I b off n c : Nat) (s x : ByteArray) (w : World) (hI : Blk w I [.slice (some ⟨b, off, none⟩) n c, .string s] SI) (hn : 0 < n) (hnc : n ≤ c) (hx : w.cell? ⟨b, off, none⟩ = some (.string x)) (hb : b < I) :
    Calls Tryz.prog 157 #[.pointer (some ⟨I, 0, none⟩)] w fun e w' => e = .returned (.bool true) ∧ (∃ a, Blk w' I [.slice a (n - 1) (c - 1), .string x] SI ∧ (1 < n → a = some ⟨b, off + 1, none⟩)) ∧ Chg (fun q => q = I) w w' := by
  have c0 := hI.cell 0
  have cc1 := hI.cell 1
  have z0 := hI.free 0
  have z1 := hI.free 1
  have hI2 := hI.set 1 (.string x)
  have d0 := hI2.cell 0
  have z2 := hI2.free 0
  have e0 : ((n : Int) == 0) = false := by rw [beq_eq_false_iff_ne]; omega
  have n1 : (1 : Int) ≤ (n : Int) := by omega
  have n2 : (1 : Int) ≤ (c : Int) := by omega
  have n3 : (n : Int) ≤ (c : Int) := by omega
  have n4 : (0 : Int) < (n : Int) := by omega
  by_cases hc : c = 1
  · subst hc
    obtain rfl : n = 1 := by omega
    go_enter Tryz.func157, Tryz.ntmps157
    go_wp2_with fail
    go_ret
    exact ⟨rfl, ⟨_, hI2.set 0 _, fun h => absurd h (by omega)⟩, Chg.setCell (S := fun q => q = I) (Chg.setCell (S := fun q => q = I) (Chg.refl (fun q => q = I) w) ⟨I, 1, none⟩ rfl _) ⟨I, 0, none⟩ rfl _⟩
  · have hc' : ¬ c = 1 := hc
    go_enter Tryz.func157, Tryz.ntmps157
    go_wp2_with fail
    go_ret
    exact ⟨rfl, ⟨_, hI2.set 0 _, fun _ => rfl⟩, Chg.setCell (S := fun q => q = I) (Chg.setCell (S := fun q => q = I) (Chg.refl (fun q => q = I) w) ⟨I, 1, none⟩ rfl _) ⟨I, 0, none⟩ rfl _⟩
end Go.Proofs.YtfllcbcokncgpaaGreatDoor
