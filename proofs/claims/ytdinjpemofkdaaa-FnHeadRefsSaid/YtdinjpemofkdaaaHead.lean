/- A head chunk's reference has the series in the upper 5 bytes and the chunk in the lower 3, and is unpacked to both; greater numbers are refused. -/
import Derived.Test.YtdinjpemofkdaaaRefsLaws
namespace Go.Proofs.Ytdinjpemofkdaaa
open Go.RowKit

set_option maxRecDepth 100000 in
set_option maxHeartbeats 2000000 in
theorem fnHeadRefs_fits (a b : Nat) (ha' : a < 1099511627776) (hb' : b < 16777216) (w : World) :
    Calls Try.prog 5 #[.int .u64 a, .int .u64 b] w fun e w' => e = .returned (.bool true) ∧ Below w.heap.size w w' := by
  have E := or_shift24 a b ha' hb'
  obtain ⟨r, hr⟩ : ∃ r, r = a * 16777216 + b := ⟨_, rfl⟩
  rw [← hr] at E
  have h1 : (r : Int) / 16777216 = a := by omega
  have h2 : (r : Int) % 16777216 = b := by omega
  have h3 : (a : Int) < 1099511627776 := by omega
  have h4 : (b : Int) < 16777216 := by omega
  clear hr
  go_enter Try.func5, Try.ntmps5
  go_wp2_with fail
  refine (headRef_ok a b _ ha' hb').mono ?_
  rintro e w1 ⟨rfl, hb1⟩
  rw [E]
  go_wp2_with (first | (go_at_call 15; refine (headUnpack _ _).mono ?_; rintro e w' ⟨rfl, rfl⟩) | (go_at_call 14; refine (refAlive _).mono ?_; rintro e w' ⟨rfl, hbel⟩))
  go_ret
  exact ⟨eqi (by simp), hb1.trans (Below.mono (by assumption) hb1.size)⟩

set_option maxRecDepth 100000 in
set_option maxHeartbeats 2000000 in
theorem fnHeadRefs_chunk (a b : Nat) (h3 : (a : Int) < 1099511627776) (h : Hid (16777216 ≤ b)) (hd : decide ((b : Int) < 16777216) = false) (w : World) :
    Calls Try.prog 5 #[.int .u64 a, .int .u64 b] w fun e w' => e = .returned (.bool true) ∧ Below w.heap.size w w' := by
  go_enter Try.func5, Try.ntmps5
  go_wp2_with fail
  refine (headRef_big a b _ (Or.inr h.out)).mono ?_
  rintro e w1 ⟨rfl, hb1⟩
  go_wp2_with (first | (go_at_call 14; refine (refAlive _).mono ?_; rintro e w' ⟨rfl, hbel⟩))
  go_ret
  exact ⟨eqi (by simp), hb1.trans (Below.mono (by assumption) hb1.size)⟩

set_option maxRecDepth 100000 in
set_option maxHeartbeats 2000000 in
theorem fnHeadRefs_series (a b : Nat) (h : Hid (1099511627776 ≤ a)) (hd : decide ((a : Int) < 1099511627776) = false) (w : World) :
    Calls Try.prog 5 #[.int .u64 a, .int .u64 b] w fun e w' => e = .returned (.bool true) ∧ Below w.heap.size w w' := by
  go_enter Try.func5, Try.ntmps5
  go_wp2_with fail
  refine (headRef_big a b _ (Or.inl h.out)).mono ?_
  rintro e w1 ⟨rfl, hb1⟩
  go_wp2_with (first | (go_at_call 14; refine (refAlive _).mono ?_; rintro e w' ⟨rfl, hbel⟩))
  go_ret
  exact ⟨eqi (by simp), hb1.trans (Below.mono (by assumption) hb1.size)⟩

theorem fnHeadRefs_walk (a b : Int) (wa : (Lit.int .u64 a).wf = true) (wb : (Lit.int .u64 b).wf = true) (w : World) :
    Calls Try.prog 5 #[.int .u64 a, .int .u64 b] w fun e w' => e = .returned (.bool true) ∧ Below w.heap.size w w' := by
  obtain ⟨a0, a1⟩ : 0 ≤ a ∧ a < 18446744073709551616 := by simp [Lit.wf, IntKind.min, IntKind.max, IntKind.signed, IntKind.bits] at wa; omega
  obtain ⟨b0, b1⟩ : 0 ≤ b ∧ b < 18446744073709551616 := by simp [Lit.wf, IntKind.min, IntKind.max, IntKind.signed, IntKind.bits] at wb; omega
  clear wa wb
  obtain ⟨a, rfl⟩ := Int.eq_ofNat_of_zero_le a0
  obtain ⟨b, rfl⟩ := Int.eq_ofNat_of_zero_le b0
  rcases Nat.lt_or_ge a 1099511627776 with h | h
  · rcases Nat.lt_or_ge b 16777216 with g | g
    · exact fnHeadRefs_fits a b h g w
    · exact fnHeadRefs_chunk a b (by omega) (Lib.hid g) (decide_eq_false (by omega)) w
  · exact fnHeadRefs_series a b (Lib.hid h) (decide_eq_false (by omega)) w
end Go.Proofs.Ytdinjpemofkdaaa
