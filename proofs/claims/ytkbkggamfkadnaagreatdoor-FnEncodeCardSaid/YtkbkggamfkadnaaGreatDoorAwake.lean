/-
  indexAwake is true.
-/
import Derived.Test.YtkbkggamfkadnaaGreatDoorAwakeX
import Derived.Test.YtkbkggamfkadnaaGreatDoorAwakeE
import Derived.Test.YtkbkggamfkadnaaGreatDoorIv2
namespace Go.Proofs.YtkbkggamfkadnaaGreatDoor
set_option linter.unusedSimpArgs false
set_option linter.unusedVariables false
open Go.RowKit

set_option maxRecDepth 100000 in
set_option maxHeartbeats 4000000 in
theorem awake_any (w : World) : Calls Tryz.prog 7 #[] w fun e w' => e = .returned (.bool true) ∧ Below w.heap.size w w' := by
  go_enter Tryz.func7, Tryz.ntmps7
  go_wp2_with fail
  have kA : Blk (((w.alloc (.cells #[.int .u64 1, .int .u64 2] 26)).alloc (.cells #[.int .u64 2] 26)).alloc (.cells #[.int .i64 0, .slice (some ⟨w.heap.size, 0, none⟩) 2 2, .slice none 0 0, .int .i64 0, .slice (some ⟨w.heap.size + 1, 0, none⟩) 1 1, .slice none 0 0] 45)) w.heap.size [.int .u64 1, .int .u64 2] 26 := ((Blk.new w [.int .u64 1, .int .u64 2] 26).alloc _).alloc _
  have kB : Blk (((w.alloc (.cells #[.int .u64 1, .int .u64 2] 26)).alloc (.cells #[.int .u64 2] 26)).alloc (.cells #[.int .i64 0, .slice (some ⟨w.heap.size, 0, none⟩) 2 2, .slice none 0 0, .int .i64 0, .slice (some ⟨w.heap.size + 1, 0, none⟩) 1 1, .slice none 0 0] 45)) (w.heap.size + 1) [.int .u64 2] 26 := by
    have := (Blk.new (w.alloc (.cells #[.int .u64 1, .int .u64 2] 26)) [.int .u64 2] 26).alloc (.cells #[.int .i64 0, .slice (some ⟨w.heap.size, 0, none⟩) 2 2, .slice none 0 0, .int .i64 0, .slice (some ⟨w.heap.size + 1, 0, none⟩) 1 1, .slice none 0 0] 45)
    simpa using this
  have kC : Blk (((w.alloc (.cells #[.int .u64 1, .int .u64 2] 26)).alloc (.cells #[.int .u64 2] 26)).alloc (.cells #[.int .i64 0, .slice (some ⟨w.heap.size, 0, none⟩) 2 2, .slice none 0 0, .int .i64 0, .slice (some ⟨w.heap.size + 1, 0, none⟩) 1 1, .slice none 0 0] 45)) (w.heap.size + 1 + 1) [.int .i64 0, .slice (some ⟨w.heap.size, 0, none⟩) 2 2, .slice none 0 0, .int .i64 0, .slice (some ⟨w.heap.size + 1, 0, none⟩) 1 1, .slice none 0 0] 45 := by
    have := Blk.new ((w.alloc (.cells #[.int .u64 1, .int .u64 2] 26)).alloc (.cells #[.int .u64 2] 26)) [.int .i64 0, .slice (some ⟨w.heap.size, 0, none⟩) 2 2, .slice none 0 0, .int .i64 0, .slice (some ⟨w.heap.size + 1, 0, none⟩) 1 1, .slice none 0 0] 45
    simpa using this
  have hW := ((below_new w (.cells #[.int .u64 1, .int .u64 2] 26)).alloc (by simp) (.cells #[.int .u64 2] 26)).alloc (by simp; omega) (.cells #[.int .i64 0, .slice (some ⟨w.heap.size, 0, none⟩) 2 2, .slice none 0 0, .int .i64 0, .slice (some ⟨w.heap.size + 1, 0, none⟩) 1 1, .slice none 0 0] 45)
  generalize ((w.alloc _).alloc _).alloc _ = W at *
  have h1 : Ints W W.heap.size .u64 (.slice (some ⟨w.heap.size, 0, none⟩) 2 2) [1, 2] := Ints.own (base := 0) (n := 2) (blk_own kA (by omega) (by omega) (by decide) rfl rfl)
  have h2 : Ints W W.heap.size .u64 (.slice (some ⟨w.heap.size + 1, 0, none⟩) 1 1) [2] := Ints.own (base := 0) (n := 1) (blk_own kB (by omega) (by omega) (by decide) rfl rfl)
  refine (expand_awake _ _ _ W h1 h2 kC).mono ?_
  rintro e W2 ⟨x, rfl, hx, hb2⟩
  have hB2 := bnx hW hb2
  obtain ⟨xg, xc, rfl, _⟩ := own_some hx (by omega)
  have hP : Pairs (W2.alloc (.cells #[.int .i64 1, .int .i64 2, .int .i64 3, .int .i64 4] 49)) (W2.alloc (.cells #[.int .i64 1, .int .i64 2, .int .i64 3, .int .i64 4] 49)).heap.size .i64 .i64 (.slice (some ⟨W2.heap.size, 0, none⟩) 2 2) [(1, 2), (3, 4)] := Pairs.own (base := 0) (n := 2) (blk_own (Blk.new W2 [.int .i64 1, .int .i64 2, .int .i64 3, .int .i64 4] 49) (by omega) (by omega) (by decide) rfl rfl)
  have hadd := addIntervals_any _ [(1, 2), (3, 4)] _ hP (by decide) (by intro z hz; simp at hz; rcases hz with rfl | rfl <;> decide)
  have hcov : covers [(1, 2), (3, 4)] = [(1, 4)] := by decide
  rw [hcov] at hadd
  go_wp2_with (first | (go_at_call 18; refine hadd.mono ?_; rintro e W3 ⟨y, rfl, hy, hb3⟩; obtain ⟨yg, yc, rfl, hyg⟩ := own_some hy (by decide); have hB3 := bnx (below_new W2 (.cells #[.int .i64 1, .int .i64 2, .int .i64 3, .int .i64 4] 49)) hb3; have ex := (hB3.cell (p := ⟨xg, 0, none⟩) (hx.lt xg rfl).2).trans (own_src hx 0 _ rfl); have ey0 := own_src hy 0 _ rfl; have ey := own_src hy 1 _ rfl; have henc := encode_awake W3.heap.size _ (Blk.new W3 [.int .i64 8, .int .u64 300, .slice none 0 0] 28)) | (go_at_call 11; refine henc.mono ?_; rintro e W4 ⟨z, rfl, hz, hb4⟩; obtain ⟨zg, zc, rfl, _⟩ := own_some hz (by decide)) | fail)
  go_ret
  exact ⟨rfl, bnx (bnx hB2 hB3) (bnx (below_new W3 (.cells #[.int .i64 8, .int .u64 300, .slice none 0 0] 28)) hb4)⟩
end Go.Proofs.YtkbkggamfkadnaaGreatDoor
