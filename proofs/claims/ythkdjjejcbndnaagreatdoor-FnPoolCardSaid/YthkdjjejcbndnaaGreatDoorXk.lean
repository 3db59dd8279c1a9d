/-
  The walk of FnEmptyChunks.
-/
import Derived.Test.YthkdjjejcbndnaaGreatDoorXj
namespace Go.Proofs.YthkdjjejcbndnaaGreatDoor
set_option linter.unusedSimpArgs false
set_option linter.unusedVariables false
open Go.RowKit

theorem wEmpty0 (k : Nat) (W : World) (h : k = 0 ∨ 3 < k) (h2 : k ≤ 255) : Calls Tryz.prog 10 #[.int .u8 k] W fun e W' => e = .returned (.bool true) ∧ Below W.heap.size W W' := by
  have hC := fun w => chunkEmpty0 k w h h2
  have hV := fun w => valueChunk0 k w h h2
  have n1 : (0 : Int) ≤ (k : Int) := by omega
  have n2 : (k : Int) ≤ 255 := by omega
  rcases h with h | h
  · subst h
    go_enter Tryz.func10, Tryz.ntmps10
    go_wp2_with (first
      | (go_at_call 23; refine (hC _).mono ?_; rintro e w1 ⟨rfl, hB1⟩)
      | (go_at_call 24; refine (hV _).mono ?_; rintro e w2 ⟨rfl, hB2⟩)
      | (go_at_call 12; refine (alive_any _).mono ?_; rintro e w3 ⟨rfl, hB3⟩)
      | fail)
    go_ret
    exact ⟨rfl, bnx (bnx hB1 hB2) hB3⟩
  · have e1 : (1 : Int) ≤ (k : Int) := by omega
    have e2 : ¬ (k : Int) ≤ 3 := by omega
    clear h
    go_enter Tryz.func10, Tryz.ntmps10
    go_wp2_with (first
      | (go_at_call 23; refine (hC _).mono ?_; rintro e w1 ⟨rfl, hB1⟩)
      | (go_at_call 24; refine (hV _).mono ?_; rintro e w2 ⟨rfl, hB2⟩)
      | (go_at_call 12; refine (alive_any _).mono ?_; rintro e w3 ⟨rfl, hB3⟩)
      | fail)
    go_ret
    exact ⟨rfl, bnx (bnx hB1 hB2) hB3⟩
theorem wEmpty1 (W : World) : Calls Tryz.prog 10 #[.int .u8 1] W fun e W' => e = .returned (.bool true) ∧ Below W.heap.size W W' := by
  go_enter Tryz.func10, Tryz.ntmps10
  go_wp2_with (first
    | (go_at_call 23; refine (chunkEmpty1 _).mono ?_; rintro e w1 ⟨rfl, hB1⟩)
    | (go_at_call 24; refine (valueChunk1 _).mono ?_; rintro e w2 ⟨rfl, hB2⟩)
    | (go_at_call 12; refine (alive_any _).mono ?_; rintro e w3 ⟨rfl, hB3⟩)
    | fail)
  go_ret
  exact ⟨rfl, bnx (bnx hB1 hB2) hB3⟩
theorem wEmpty2 (W : World) : Calls Tryz.prog 10 #[.int .u8 2] W fun e W' => e = .returned (.bool true) ∧ Below W.heap.size W W' := by
  go_enter Tryz.func10, Tryz.ntmps10
  go_wp2_with (first
    | (go_at_call 23; refine (chunkEmpty2 _).mono ?_; rintro e w1 ⟨rfl, hB1⟩)
    | (go_at_call 24; refine (valueChunk2 _).mono ?_; rintro e w2 ⟨rfl, hB2⟩)
    | (go_at_call 12; refine (alive_any _).mono ?_; rintro e w3 ⟨rfl, hB3⟩)
    | fail)
  go_ret
  exact ⟨rfl, bnx (bnx hB1 hB2) hB3⟩
theorem wEmpty3 (W : World) : Calls Tryz.prog 10 #[.int .u8 3] W fun e W' => e = .returned (.bool true) ∧ Below W.heap.size W W' := by
  go_enter Tryz.func10, Tryz.ntmps10
  go_wp2_with (first
    | (go_at_call 23; refine (chunkEmpty3 _).mono ?_; rintro e w1 ⟨rfl, hB1⟩)
    | (go_at_call 24; refine (valueChunk3 _).mono ?_; rintro e w2 ⟨rfl, hB2⟩)
    | (go_at_call 12; refine (alive_any _).mono ?_; rintro e w3 ⟨rfl, hB3⟩)
    | fail)
  go_ret
  exact ⟨rfl, bnx (bnx hB1 hB2) hB3⟩
theorem rngU8 {z : Int} (hz : (Lit.int .u8 z).wf = true) : ∃ k : Nat, z = k ∧ k ≤ 255 := by
  have m0 : IntKind.u8.min = 0 := by decide
  have m1 : IntKind.u8.max = 255 := by decide
  have h0 : 0 ≤ z ∧ z ≤ 255 := by simpa only [Lit.wf, Bool.and_eq_true, decide_eq_true_eq, m0, m1] using hz
  exact ⟨z.toNat, by omega, by omega⟩
theorem wEmpty (z : Int) (W : World) (hz : (Lit.int .u8 z).wf = true) : Calls Tryz.prog 10 #[.int .u8 z] W fun e W' => e = .returned (.bool true) ∧ Below W.heap.size W W' := by
  obtain ⟨k, rfl, hk⟩ := rngU8 hz
  by_cases h : k = 0 ∨ 3 < k
  · exact wEmpty0 k W h hk
  · have : k = 1 ∨ k = 2 ∨ k = 3 := by omega
    rcases this with rfl | rfl | rfl
    · exact wEmpty1 W
    · exact wEmpty2 W
    · exact wEmpty3 W
end Go.Proofs.YthkdjjejcbndnaaGreatDoor
