/-
  The laws on references, walked: head chunks', block chunks' and the disk mapper's references; ranges that overlap.
-/
import Derived.Test.YtdinjpemofkdaaaRefs
import Derived.Lib.Hide
import Derived.Laws.BitsAllLaws
namespace Go.Proofs.Ytdinjpemofkdaaa
open Go.RowKit

set_option maxRecDepth 100000 in
set_option maxHeartbeats 2000000 in
theorem fnMapperRefs_walk (a b : Int) (wa : (Lit.int .u64 a).wf = true) (wb : (Lit.int .u64 b).wf = true) (w : World) :
    Calls Try.prog 8 #[.int .u64 a, .int .u64 b] w fun e w' => e = .returned (.bool true) ∧ Below w.heap.size w w' := by
  obtain ⟨a0, a1⟩ : 0 ≤ a ∧ a < 18446744073709551616 := by simp [Lit.wf, IntKind.min, IntKind.max, IntKind.signed, IntKind.bits] at wa; omega
  obtain ⟨b0, b1⟩ : 0 ≤ b ∧ b < 18446744073709551616 := by simp [Lit.wf, IntKind.min, IntKind.max, IntKind.signed, IntKind.bits] at wb; omega
  clear wa wb
  obtain ⟨a, rfl⟩ := Int.eq_ofNat_of_zero_le a0
  obtain ⟨b, rfl⟩ := Int.eq_ofNat_of_zero_le b0
  have ha : a < 18446744073709551616 := by omega
  have hb : b < 18446744073709551616 := by omega
  clear a0 a1 b0 b1
  have key : ∀ c d : Bool, gt a b = c → ge a b = d → (a / 4294967296 < b / 4294967296 ∧ c = false ∧ d = false ∨ b / 4294967296 < a / 4294967296 ∧ c = true ∧ d = true ∨ a / 4294967296 = b / 4294967296 ∧ (a % 4294967296 < b % 4294967296 ∧ c = false ∧ d = false ∨ a % 4294967296 = b % 4294967296 ∧ c = false ∧ d = true ∨ b % 4294967296 < a % 4294967296 ∧ c = true ∧ d = true)) := by
    rintro c d rfl rfl
    simp only [gt, ge, Bool.or_eq_true, Bool.and_eq_true, Bool.or_eq_false_iff, Bool.and_eq_false_iff, decide_eq_true_eq, decide_eq_false_iff_not, beq_iff_eq, beq_eq_false_iff_ne]
    omega
  have walk : ∀ c d : Bool, gt a b = c → ge a b = d → (a / 4294967296 < b / 4294967296 ∧ c = false ∧ d = false ∨ b / 4294967296 < a / 4294967296 ∧ c = true ∧ d = true ∨ a / 4294967296 = b / 4294967296 ∧ (a % 4294967296 < b % 4294967296 ∧ c = false ∧ d = false ∨ a % 4294967296 = b % 4294967296 ∧ c = false ∧ d = true ∨ b % 4294967296 < a % 4294967296 ∧ c = true ∧ d = true)) → Calls Try.prog 8 #[.int .u64 a, .int .u64 b] w fun e w' => e = .returned (.bool true) ∧ Below w.heap.size w w' := by
    clear key
    rintro c d hg he (⟨h, rfl, rfl⟩ | ⟨h, rfl, rfl⟩ | ⟨h, ⟨h', rfl, rfl⟩ | ⟨h', rfl, rfl⟩ | ⟨h', rfl, rfl⟩⟩)
    all_goals
      have c3 := Lib.hid (mapperCompare a b w ha hb)
      rw [hg, he] at c3
      clear hg he
      go_enter Try.func8, Try.ntmps8
      go_wp2_with (first | (go_at_call 21; refine (mapperUnpack _ _ (by omega)).mono ?_; rintro e w' ⟨rfl, rfl⟩) | (go_at_call 22; refine c3.out.mono ?_; rintro e w' ⟨rfl, rfl⟩) | (go_at_call 14; refine (refAlive _).mono ?_; rintro e w' ⟨rfl, hbel⟩))
      go_ret
      exact ⟨eqi (by simp <;> omega), by assumption⟩
  exact walk _ _ rfl rfl (key _ _ rfl rfl)

theorem or_shift (i a b : Nat) (hb : b < 2 ^ i) (h : a * 2 ^ i + b < 18446744073709551616) : bits .or .u64 ((a : Int) * ((2 ^ i : Nat) : Int)) (b : Int) = ((a * 2 ^ i + b : Nat) : Int) := by
  have e : ((a : Int) * ((2 ^ i : Nat) : Int)) = ((a * 2 ^ i : Nat) : Int) := by rw [Int.natCast_mul]
  rw [e, u64_or_nat _ _ (by omega) (by omega)]
  congr 1
  have := Nat.shiftLeft_add_eq_or_of_lt hb a
  rw [Nat.shiftLeft_eq] at this
  exact this.symm

theorem or_shift32 (a b : Nat) (ha : a < 4294967296) (hb : b < 4294967296) : bits .or .u64 ((a : Int) * 4294967296) (b : Int) = ((a * 4294967296 + b : Nat) : Int) :=
  or_shift 32 a b hb (by omega)
theorem or_shift24 (a b : Nat) (ha : a < 1099511627776) (hb : b < 16777216) : bits .or .u64 ((a : Int) * 16777216) (b : Int) = ((a * 16777216 + b : Nat) : Int) :=
  or_shift 24 a b hb (by omega)

set_option maxHeartbeats 400000 in
theorem blockRef (a b : Nat) (w : World) (ha : a < 4294967296) (hb : b < 4294967296) :
    Calls Try.prog 23 #[.int .u64 a, .int .u64 b] w fun e w' => e = .returned (.int .u64 ((a * 4294967296 + b : Nat) : Int)) ∧ w = w' := by
  have E := Lib.hid (or_shift32 a b ha hb)
  go_enter Try.func23, Try.ntmps23
  go_wp2
  go_ret
  exact ⟨by rw [← E.out]; rfl, rfl⟩

set_option maxRecDepth 100000 in
set_option maxHeartbeats 2000000 in
theorem fnBlockRefs_walk (a b : Int) (wa : (Lit.int .u32 a).wf = true) (wb : (Lit.int .u32 b).wf = true) (w : World) :
    Calls Try.prog 9 #[.int .u32 a, .int .u32 b] w fun e w' => e = .returned (.bool true) ∧ Below w.heap.size w w' := by
  obtain ⟨a0, a1⟩ : 0 ≤ a ∧ a < 4294967296 := by simp [Lit.wf, IntKind.min, IntKind.max, IntKind.signed, IntKind.bits] at wa; omega
  obtain ⟨b0, b1⟩ : 0 ≤ b ∧ b < 4294967296 := by simp [Lit.wf, IntKind.min, IntKind.max, IntKind.signed, IntKind.bits] at wb; omega
  clear wa wb
  obtain ⟨a, rfl⟩ := Int.eq_ofNat_of_zero_le a0
  obtain ⟨b, rfl⟩ := Int.eq_ofNat_of_zero_le b0
  have ha : a < 4294967296 := by omega
  have hb : b < 4294967296 := by omega
  clear a0 a1 b0 b1
  have E := or_shift32 a b ha hb
  have c := blockRef a b w ha hb
  obtain ⟨r, hr⟩ : ∃ r, r = a * 4294967296 + b := ⟨_, rfl⟩
  rw [← hr] at E c
  have hr0 : r < 18446744073709551616 := by omega
  have h1 : (r : Int) / 4294967296 = a := by omega
  have h2 : (r : Int) % 4294967296 = b := by omega
  have c := Lib.hid c
  clear hr
  go_enter Try.func9, Try.ntmps9
  go_wp2_with fail
  refine c.out.mono ?_
  rintro e w' ⟨rfl, rfl⟩
  go_wp2_with (first | (go_at_call 21; refine (mapperUnpack _ _ (by omega)).mono ?_; rintro e w' ⟨rfl, rfl⟩) | (go_at_call 24; refine (blockUnpack _ _ (by omega)).mono ?_; rintro e w' ⟨rfl, rfl⟩) | (go_at_call 14; refine (refAlive _).mono ?_; rintro e w' ⟨rfl, hbel⟩))
  go_ret
  exact ⟨eqi (by simp), by assumption⟩

end Go.Proofs.Ytdinjpemofkdaaa
