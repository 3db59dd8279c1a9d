/-
  Empty chunks of each encoding, and for each kind of value.
-/
import Derived.Test.YthkdjjejcbndnaaGreatDoorXi
namespace Go.Proofs.YthkdjjejcbndnaaGreatDoor
set_option linter.unusedSimpArgs false
set_option linter.unusedVariables false
open Go.RowKit

/-- an empty chunk of kind k -/
def EmptyC (w : World) (k : Int) (v : Value) : Prop := ∃ p g n, 2 ≤ n ∧ (w.cell? ⟨p, 0, none⟩ = some (.slice (some ⟨g, 0, none⟩) n 128) ∧ w.cell? ⟨g, 0, none⟩ = some (.int .u8 0) ∧ w.cell? ⟨g, 1, none⟩ = some (.int .u8 0)) ∧ ((k = 1 ∧ v = .iface 57 (.pointer (some ⟨p, 0, none⟩))) ∨ (k = 2 ∧ v = .iface 120 (.pointer (some ⟨p, 0, none⟩))) ∨ (k = 3 ∧ v = .iface 122 (.pointer (some ⟨p, 0, none⟩))))

set_option maxRecDepth 100000 in
theorem newEmpty1 (w : World) : Calls Tryz.prog 46 #[.int .u8 1] w fun e w' => ∃ v, e = .returned (.tuple #[v, .nilIface]) ∧ EmptyC w' 1 v ∧ Below w.heap.size w w' := by
  go_enter Tryz.func46, Tryz.ntmps46
  go_wp2_with (first
    | (go_at_call 38; refine (newX_any _).mono ?_; rintro e w1 ⟨rfl, hc, hB⟩)
    | fail)
  go_ret2
  exact ⟨_, rfl, ⟨_, _, _, by decide, hc, by simp⟩, hB⟩

set_option maxRecDepth 100000 in
theorem newEmpty2 (w : World) : Calls Tryz.prog 46 #[.int .u8 2] w fun e w' => ∃ v, e = .returned (.tuple #[v, .nilIface]) ∧ EmptyC w' 2 v ∧ Below w.heap.size w w' := by
  go_enter Tryz.func46, Tryz.ntmps46
  go_wp2_with (first
    | (go_at_call 60; refine (newH_any _).mono ?_; rintro e w1 ⟨rfl, hc, hB⟩)
    | fail)
  go_ret2
  exact ⟨_, rfl, ⟨_, _, _, by decide, hc, by simp⟩, hB⟩

set_option maxRecDepth 100000 in
theorem newEmpty3 (w : World) : Calls Tryz.prog 46 #[.int .u8 3] w fun e w' => ∃ v, e = .returned (.tuple #[v, .nilIface]) ∧ EmptyC w' 3 v ∧ Below w.heap.size w w' := by
  go_enter Tryz.func46, Tryz.ntmps46
  go_wp2_with (first
    | (go_at_call 61; refine (newF_any _).mono ?_; rintro e w1 ⟨rfl, hc, hB⟩)
    | fail)
  go_ret2
  exact ⟨_, rfl, ⟨_, _, _, by decide, hc, by simp⟩, hB⟩

set_option maxRecDepth 100000 in
theorem newEmpty0 (k : Nat) (w : World) (h : k = 0 ∨ 3 < k) : Calls Tryz.prog 46 #[.int .u8 k] w fun e w' => ∃ t u, e = .returned (.tuple #[.nilIface, .iface t u]) ∧ Below w.heap.size w w' := by
  have e1 : ((k : Int) == 1) = false := by rw [beq_eq_false_iff_ne]; omega
  have e2 : ((k : Int) == 2) = false := by rw [beq_eq_false_iff_ne]; omega
  have e3 : ((k : Int) == 3) = false := by rw [beq_eq_false_iff_ne]; omega
  clear h
  go_enter Tryz.func46, Tryz.ntmps46
  go_wp2_with (first
    | (go_at_call 51; refine (errNew_any _ _).mono ?_; rintro e w1 ⟨rfl, hB⟩)
    | fail)
  go_ret2
  exact ⟨_, _, rfl, hB⟩

set_option maxRecDepth 100000 in
theorem newChunk1 (w : World) : Calls Tryz.prog 47 #[.int .u8 1] w fun e w' => ∃ v, e = .returned (.tuple #[v, .nilIface]) ∧ EmptyC w' 1 v ∧ Below w.heap.size w w' := by
  go_enter Tryz.func47, Tryz.ntmps47
  go_wp2_with (first
    | (go_at_call 38; refine (newX_any _).mono ?_; rintro e w1 ⟨rfl, hc, hB⟩)
    | fail)
  go_ret2
  exact ⟨_, rfl, ⟨_, _, _, by decide, hc, by simp⟩, hB⟩

set_option maxRecDepth 100000 in
theorem newChunk2 (w : World) : Calls Tryz.prog 47 #[.int .u8 2] w fun e w' => ∃ v, e = .returned (.tuple #[v, .nilIface]) ∧ EmptyC w' 2 v ∧ Below w.heap.size w w' := by
  go_enter Tryz.func47, Tryz.ntmps47
  go_wp2_with (first
    | (go_at_call 60; refine (newH_any _).mono ?_; rintro e w1 ⟨rfl, hc, hB⟩)
    | fail)
  go_ret2
  exact ⟨_, rfl, ⟨_, _, _, by decide, hc, by simp⟩, hB⟩

set_option maxRecDepth 100000 in
theorem newChunk3 (w : World) : Calls Tryz.prog 47 #[.int .u8 3] w fun e w' => ∃ v, e = .returned (.tuple #[v, .nilIface]) ∧ EmptyC w' 3 v ∧ Below w.heap.size w w' := by
  go_enter Tryz.func47, Tryz.ntmps47
  go_wp2_with (first
    | (go_at_call 61; refine (newF_any _).mono ?_; rintro e w1 ⟨rfl, hc, hB⟩)
    | fail)
  go_ret2
  exact ⟨_, rfl, ⟨_, _, _, by decide, hc, by simp⟩, hB⟩

set_option maxRecDepth 100000 in
theorem newChunk0 (k : Nat) (w : World) (h : k = 0 ∨ 3 < k) : Calls Tryz.prog 47 #[.int .u8 k] w fun e w' => ∃ t u, e = .returned (.tuple #[.nilIface, .iface t u]) ∧ Below w.heap.size w w' := by
  have e1 : ((k : Int) == 1) = false := by rw [beq_eq_false_iff_ne]; omega
  have e2 : ((k : Int) == 2) = false := by rw [beq_eq_false_iff_ne]; omega
  have e3 : ((k : Int) == 3) = false := by rw [beq_eq_false_iff_ne]; omega
  clear h
  go_enter Tryz.func47, Tryz.ntmps47
  go_wp2_with (first
    | (go_at_call 51; refine (errNew_any _ _).mono ?_; rintro e w1 ⟨rfl, hB⟩)
    | fail)
  go_ret2
  exact ⟨_, _, rfl, hB⟩

set_option maxRecDepth 100000 in
set_option maxHeartbeats 1000000 in
theorem chunkEmpty1 (w : World) : Calls Tryz.prog 23 #[.int .i64 1] w fun e w' => e = .returned (.tuple #[.int .i64 1, .int .i64 0, .bool true]) ∧ Below w.heap.size w w' := by
  have m1 := mEncX
  have m2 := mNumX
  go_enter Tryz.func23, Tryz.ntmps23
  go_wp2_with (first
    | (go_at_call 46; refine (newEmpty1 _).mono ?_; rintro e w1 ⟨v, rfl, ⟨p, g, n, hn, ⟨c0, c1, c2⟩, hv⟩, hB⟩; obtain rfl : v = .iface 57 (.pointer (some ⟨p, 0, none⟩)) := (by simpa using hv); clear hv)
    | (go_at_call 90; refine (encX_any p _).mono ?_; rintro e w' ⟨rfl, rfl⟩)
    | (go_at_call 27; refine (numX_any p g n 128 _ c0 hn c1 c2).mono ?_; rintro e w2 ⟨rfl, hB2⟩)
    | fail)
  go_ret3
  exact ⟨rfl, bnx hB hB2⟩

set_option maxRecDepth 100000 in
set_option maxHeartbeats 1000000 in
theorem chunkEmpty2 (w : World) : Calls Tryz.prog 23 #[.int .i64 2] w fun e w' => e = .returned (.tuple #[.int .i64 2, .int .i64 0, .bool true]) ∧ Below w.heap.size w w' := by
  have m1 := mEncH
  have m2 := mNumH
  go_enter Tryz.func23, Tryz.ntmps23
  go_wp2_with (first
    | (go_at_call 46; refine (newEmpty2 _).mono ?_; rintro e w1 ⟨v, rfl, ⟨p, g, n, hn, ⟨c0, c1, c2⟩, hv⟩, hB⟩; obtain rfl : v = .iface 120 (.pointer (some ⟨p, 0, none⟩)) := (by simpa using hv); clear hv)
    | (go_at_call 98; refine (encH_any p _).mono ?_; rintro e w' ⟨rfl, rfl⟩)
    | (go_at_call 100; refine (numH_any p g n 128 _ c0 hn c1 c2).mono ?_; rintro e w2 ⟨rfl, hB2⟩)
    | fail)
  go_ret3
  exact ⟨rfl, bnx hB hB2⟩

set_option maxRecDepth 100000 in
set_option maxHeartbeats 1000000 in
theorem chunkEmpty3 (w : World) : Calls Tryz.prog 23 #[.int .i64 3] w fun e w' => e = .returned (.tuple #[.int .i64 3, .int .i64 0, .bool true]) ∧ Below w.heap.size w w' := by
  have m1 := mEncF
  have m2 := mNumF
  go_enter Tryz.func23, Tryz.ntmps23
  go_wp2_with (first
    | (go_at_call 46; refine (newEmpty3 _).mono ?_; rintro e w1 ⟨v, rfl, ⟨p, g, n, hn, ⟨c0, c1, c2⟩, hv⟩, hB⟩; obtain rfl : v = .iface 122 (.pointer (some ⟨p, 0, none⟩)) := (by simpa using hv); clear hv)
    | (go_at_call 108; refine (encF_any p _).mono ?_; rintro e w' ⟨rfl, rfl⟩)
    | (go_at_call 110; refine (numF_any p g n 128 _ c0 hn c1 c2).mono ?_; rintro e w2 ⟨rfl, hB2⟩)
    | fail)
  go_ret3
  exact ⟨rfl, bnx hB hB2⟩

set_option maxRecDepth 100000 in
theorem chunkEmpty0 (k : Nat) (w : World) (h : k = 0 ∨ 3 < k) (h2 : k ≤ 255) : Calls Tryz.prog 23 #[.int .i64 k] w fun e w' => e = .returned (.tuple #[.int .i64 0, .int .i64 0, .bool false]) ∧ Below w.heap.size w w' := by
  have hC := newEmpty0 k w h
  have n1 : (0 : Int) ≤ (k : Int) := by omega
  have n2 : (k : Int) ≤ 255 := by omega
  clear h
  go_enter Tryz.func23, Tryz.ntmps23
  go_wp2_with (first
    | (go_at_call 46; refine hC.mono ?_; rintro e w1 ⟨t, u, rfl, hB⟩)
    | fail)
  go_ret3
  exact ⟨rfl, hB⟩

set_option maxRecDepth 100000 in
set_option maxHeartbeats 1000000 in
theorem valueChunk1 (w : World) : Calls Tryz.prog 24 #[.int .i64 1] w fun e w' => e = .returned (.tuple #[.int .i64 1, .int .i64 0, .bool true]) ∧ Below w.heap.size w w' := by
  have m1 := mEncX
  have m2 := mNumX
  go_enter Tryz.func24, Tryz.ntmps24
  go_wp2_with (first
    | (go_at_call 47; refine (newChunk1 _).mono ?_; rintro e w1 ⟨v, rfl, ⟨p, g, n, hn, ⟨c0, c1, c2⟩, hv⟩, hB⟩; obtain rfl : v = .iface 57 (.pointer (some ⟨p, 0, none⟩)) := (by simpa using hv); clear hv)
    | (go_at_call 90; refine (encX_any p _).mono ?_; rintro e w' ⟨rfl, rfl⟩)
    | (go_at_call 27; refine (numX_any p g n 128 _ c0 hn c1 c2).mono ?_; rintro e w2 ⟨rfl, hB2⟩)
    | fail)
  go_ret3
  exact ⟨rfl, bnx hB hB2⟩

set_option maxRecDepth 100000 in
set_option maxHeartbeats 1000000 in
theorem valueChunk2 (w : World) : Calls Tryz.prog 24 #[.int .i64 2] w fun e w' => e = .returned (.tuple #[.int .i64 2, .int .i64 0, .bool true]) ∧ Below w.heap.size w w' := by
  have m1 := mEncH
  have m2 := mNumH
  go_enter Tryz.func24, Tryz.ntmps24
  go_wp2_with (first
    | (go_at_call 47; refine (newChunk2 _).mono ?_; rintro e w1 ⟨v, rfl, ⟨p, g, n, hn, ⟨c0, c1, c2⟩, hv⟩, hB⟩; obtain rfl : v = .iface 120 (.pointer (some ⟨p, 0, none⟩)) := (by simpa using hv); clear hv)
    | (go_at_call 98; refine (encH_any p _).mono ?_; rintro e w' ⟨rfl, rfl⟩)
    | (go_at_call 100; refine (numH_any p g n 128 _ c0 hn c1 c2).mono ?_; rintro e w2 ⟨rfl, hB2⟩)
    | fail)
  go_ret3
  exact ⟨rfl, bnx hB hB2⟩

set_option maxRecDepth 100000 in
set_option maxHeartbeats 1000000 in
theorem valueChunk3 (w : World) : Calls Tryz.prog 24 #[.int .i64 3] w fun e w' => e = .returned (.tuple #[.int .i64 3, .int .i64 0, .bool true]) ∧ Below w.heap.size w w' := by
  have m1 := mEncF
  have m2 := mNumF
  go_enter Tryz.func24, Tryz.ntmps24
  go_wp2_with (first
    | (go_at_call 47; refine (newChunk3 _).mono ?_; rintro e w1 ⟨v, rfl, ⟨p, g, n, hn, ⟨c0, c1, c2⟩, hv⟩, hB⟩; obtain rfl : v = .iface 122 (.pointer (some ⟨p, 0, none⟩)) := (by simpa using hv); clear hv)
    | (go_at_call 108; refine (encF_any p _).mono ?_; rintro e w' ⟨rfl, rfl⟩)
    | (go_at_call 110; refine (numF_any p g n 128 _ c0 hn c1 c2).mono ?_; rintro e w2 ⟨rfl, hB2⟩)
    | fail)
  go_ret3
  exact ⟨rfl, bnx hB hB2⟩

set_option maxRecDepth 100000 in
theorem valueChunk0 (k : Nat) (w : World) (h : k = 0 ∨ 3 < k) (h2 : k ≤ 255) : Calls Tryz.prog 24 #[.int .i64 k] w fun e w' => e = .returned (.tuple #[.int .i64 0, .int .i64 0, .bool false]) ∧ Below w.heap.size w w' := by
  have hC := newChunk0 k w h
  have n1 : (0 : Int) ≤ (k : Int) := by omega
  have n2 : (k : Int) ≤ 255 := by omega
  clear h
  go_enter Tryz.func24, Tryz.ntmps24
  go_wp2_with (first
    | (go_at_call 47; refine hC.mono ?_; rintro e w1 ⟨t, u, rfl, hB⟩)
    | fail)
  go_ret3
  exact ⟨rfl, hB⟩
end Go.Proofs.YthkdjjejcbndnaaGreatDoor
