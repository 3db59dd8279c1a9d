/-
  References of chunks are packed and unpacked: contracts of the small functions.
-/
import Derived.Test.YtdinjpemofkdaaaSafe
namespace Go.Proofs.Ytdinjpemofkdaaa
open Go.RowKit

theorem run37 (w : World) (args : Array Value) : (callFunc 36 args).run Try.prog w = .ok (.enter 36 args) w := by
  simp [callFunc, Try.func36, Try.f36]

set_option maxHeartbeats 400000 in
theorem newHead_ok (a b : Nat) (w : World) (ha : a < 1099511627776) (hb : b < 16777216) :
    Calls Try.prog 37 #[.int .u64 a, .int .u64 b] w fun e w' => e = .returned (.int .u64 (bits .or .u64 (a * 16777216) b)) ∧ w = w' := by
  have h1 : ¬ (1099511627775 : Int) < a := by omega
  have h2 : ¬ (16777215 : Int) < b := by omega
  go_enter Try.func37, Try.ntmps37
  go_wp2
  go_ret
  exact ⟨rfl, rfl⟩

set_option maxHeartbeats 400000 in
theorem newHead_big (a b : Nat) (w : World) (h : 1099511627776 ≤ a ∨ 16777216 ≤ b) :
    Calls Try.prog 37 #[.int .u64 a, .int .u64 b] w fun e w' => (∃ s, e = .panicked [{ v := .iface 9 (.string s), recovered := false }]) ∧ w = w' := by
  by_cases h1 : (1099511627775 : Int) < a
  · go_enter Try.func37, Try.ntmps37
    go_wp2
    exact ⟨rfl, ⟨_, rfl⟩, rfl⟩
  · have h2 : (16777215 : Int) < b := by omega
    go_enter Try.func37, Try.ntmps37
    go_wp2
    exact ⟨rfl, ⟨_, rfl⟩, rfl⟩

set_option maxHeartbeats 400000 in
theorem headRef1_ok (a b : Nat) (p q r : Addr) (x : Int) (w : World) (ha : a < 1099511627776) (hb : b < 16777216) (hp : w.cell? p = some (.int .u64 a)) (hq : w.cell? q = some (.int .u64 b)) (hr : w.cell? r = some (.int .u64 x)) (hz : w.frozen? r = false) :
    Calls Try.prog 36 #[.pointer (some p), .pointer (some q), .pointer (some r)] w fun e w' => e = .returned (.tuple #[]) ∧ w' = w.setCell r (.int .u64 (bits .or .u64 (a * 16777216) b)) := by
  go_enter Try.func36, Try.ntmps36
  go_wp2_with (go_at_call 37; refine (newHead_ok _ _ _ ha hb).mono ?_; rintro e w' ⟨rfl, rfl⟩)
  go_end0
  exact ⟨rfl, rfl⟩

set_option maxHeartbeats 400000 in
theorem headRef1_big (a b : Nat) (p q r : Addr) (w : World) (h : 1099511627776 ≤ a ∨ 16777216 ≤ b) (hp : w.cell? p = some (.int .u64 a)) (hq : w.cell? q = some (.int .u64 b)) :
    Calls Try.prog 36 #[.pointer (some p), .pointer (some q), .pointer (some r)] w fun e w' => (∃ s, e = .panicked [{ v := .iface 9 (.string s), recovered := false }]) ∧ w' = w := by
  go_enter Try.func36, Try.ntmps36
  go_wp2_with (go_at_call 37; refine (newHead_big _ _ _ h).mono ?_; rintro e w' ⟨⟨s, rfl⟩, rfl⟩)
  exact ⟨rfl, ⟨_, rfl⟩, rfl⟩

set_option maxHeartbeats 400000 in
theorem headRef_ok (a b : Nat) (w : World) (ha : a < 1099511627776) (hb : b < 16777216) :
    Calls Try.prog 13 #[.int .u64 a, .int .u64 b] w fun e w' => e = .returned (.tuple #[.int .u64 (bits .or .u64 (a * 16777216) b), .bool true]) ∧ Below w.heap.size w w' := by
  go_enter Try.func13, Try.ntmps13
  go_wp2_with fail
  refine (safe_returns 36 _ _ (fun w' => w' = (((((w.alloc (Obj.cells #[Value.int IntKind.u64 ↑a] 22)).alloc (Obj.cells #[Value.int IntKind.u64 ↑b] 22)).alloc (Obj.cells #[Value.int IntKind.u64 0] 22)).alloc (.cells #[.bool false] 4)).setCell ⟨w.heap.size + 1 + 1, 0, none⟩ (.int .u64 (bits .or .u64 (a * 16777216) b)))) (fun w => run37 w _) ?_).mono ?_
  · refine (headRef1_ok a b _ _ _ 0 _ ha hb ?_ ?_ ?_ ?_).mono ?_
    · go_simp
    · go_simp
    · go_simp
    · go_simp
    · rintro e w' ⟨rfl, rfl⟩
      refine ⟨rfl, rfl, ?_, ?_⟩ <;> go_simp
  rintro e w' ⟨rfl, w1, rfl, rfl⟩
  go_wp2_with fail
  refine bodyPost_ret (v := .tuple #[.int .u64 (bits .or .u64 (a * 16777216) b), .bool true]) (by simp [results, Try.results13, go_sem]) rfl ⟨rfl, ?_⟩
  repeat (first | exact Below.refl _ _ | refine Below.alloc ?_ (by simp <;> omega) _ | refine Below.setCell ?_ (by simp <;> omega) _)

set_option maxHeartbeats 400000 in
theorem headRef_big (a b : Nat) (w : World) (h : 1099511627776 ≤ a ∨ 16777216 ≤ b) :
    Calls Try.prog 13 #[.int .u64 a, .int .u64 b] w fun e w' => e = .returned (.tuple #[.int .u64 0, .bool false]) ∧ Below w.heap.size w w' := by
  go_enter Try.func13, Try.ntmps13
  go_wp2_with fail
  refine (safe_panics 36 _ _ (fun w' => w' = ((((w.alloc (Obj.cells #[Value.int IntKind.u64 ↑a] 22)).alloc (Obj.cells #[Value.int IntKind.u64 ↑b] 22)).alloc (Obj.cells #[Value.int IntKind.u64 0] 22)).alloc (.cells #[.bool false] 4))) (fun w => run37 w _) ?_).mono ?_
  · refine (headRef1_big a b _ _ _ _ h ?_ ?_).mono ?_
    · go_simp
    · go_simp
    · rintro e w' ⟨⟨s, rfl⟩, rfl⟩
      refine ⟨⟨_, _, rfl⟩, rfl, ?_, ?_⟩ <;> go_simp
  rintro e w' ⟨rfl, w1, rfl, rfl⟩
  go_wp2_with fail
  refine bodyPost_ret (v := .tuple #[.int .u64 0, .bool false]) (by simp [results, Try.results13, go_sem]) rfl ⟨rfl, ?_⟩
  repeat (first | exact Below.refl _ _ | refine Below.alloc ?_ (by simp <;> omega) _ | refine Below.setCell ?_ (by simp <;> omega) _)

theorem eq2 {j k : IntKind} {a b c d : Int} (h : a = c) (g : b = d) : Ending.returned (.tuple #[.int j a, .int k b]) = .returned (.tuple #[.int j c, .int k d]) := by rw [h, g]
theorem eqi {a b : Bool} (h : a = true ↔ b = true) : Ending.returned (.bool a) = .returned (.bool b) := by rw [Bool.eq_iff_iff.2 h]
theorem eqb {a b : Bool} (h : a = b) : Ending.returned (.bool a) = .returned (.bool b) := by rw [h]

theorem mod40 (a : Nat) : IntKind.u64.wrap (↑a * 1099511627776) / 1099511627776 = ((a % 16777216 : Nat) : Int) := by
  simp [IntKind.wrap, IntKind.bits, IntKind.signed]; omega
theorem mod32 (a : Nat) : wrap64 (IntKind.u64.wrap (↑a * 4294967296) / 4294967296) = ((a % 4294967296 : Nat) : Int) := by
  simp [IntKind.wrap, IntKind.bits, IntKind.signed, wrap64]; omega

set_option maxHeartbeats 400000 in
theorem unpackHead (a : Nat) (w : World) :
    Calls Try.prog 38 #[.int .u64 a] w fun e w' => e = .returned (.tuple #[.int .u64 ((a / 16777216 : Nat) : Int), .int .u64 ((a % 16777216 : Nat) : Int)]) ∧ w = w' := by
  go_enter Try.func38, Try.ntmps38
  go_wp2
  go_ret2
  exact ⟨eq2 (by simp) (mod40 a), rfl⟩

set_option maxHeartbeats 400000 in
theorem headUnpack (a : Nat) (w : World) :
    Calls Try.prog 15 #[.int .u64 a] w fun e w' => e = .returned (.tuple #[.int .u64 ((a / 16777216 : Nat) : Int), .int .u64 ((a % 16777216 : Nat) : Int)]) ∧ w = w' := by
  go_enter Try.func15, Try.ntmps15
  go_wp2_with (go_at_call 38; refine (unpackHead _ _).mono ?_; rintro e w' ⟨rfl, rfl⟩)
  go_ret2
  exact ⟨rfl, rfl⟩

set_option maxHeartbeats 400000 in
theorem unpackMapper (a : Nat) (w : World) (ha : a < 18446744073709551616) :
    Calls Try.prog 42 #[.int .u64 a] w fun e w' => e = .returned (.tuple #[.int .i64 ((a / 4294967296 : Nat) : Int), .int .i64 ((a % 4294967296 : Nat) : Int)]) ∧ w = w' := by
  go_enter Try.func42, Try.ntmps42
  go_wp2
  go_ret2
  exact ⟨eq2 (by simp) (mod32 a), rfl⟩

set_option maxHeartbeats 400000 in
theorem mapperUnpack (a : Nat) (w : World) (ha : a < 18446744073709551616) :
    Calls Try.prog 21 #[.int .u64 a] w fun e w' => e = .returned (.tuple #[.int .i64 ((a / 4294967296 : Nat) : Int), .int .i64 ((a % 4294967296 : Nat) : Int)]) ∧ w = w' := by
  go_enter Try.func21, Try.ntmps21
  go_wp2_with (go_at_call 42; refine (unpackMapper _ _ ha).mono ?_; rintro e w' ⟨rfl, rfl⟩)
  go_ret2
  exact ⟨rfl, rfl⟩

set_option maxHeartbeats 400000 in
theorem unpackBlock (a : Nat) (w : World) (ha : a < 18446744073709551616) :
    Calls Try.prog 46 #[.int .u64 a] w fun e w' => e = .returned (.tuple #[.int .i64 ((a / 4294967296 : Nat) : Int), .int .i64 ((a % 4294967296 : Nat) : Int)]) ∧ w = w' := by
  go_enter Try.func46, Try.ntmps46
  go_wp2
  go_ret2
  exact ⟨eq2 (by simp) (mod32 a), rfl⟩

set_option maxHeartbeats 400000 in
theorem blockUnpack (a : Nat) (w : World) (ha : a < 18446744073709551616) :
    Calls Try.prog 24 #[.int .u64 a] w fun e w' => e = .returned (.tuple #[.int .i64 ((a / 4294967296 : Nat) : Int), .int .i64 ((a % 4294967296 : Nat) : Int)]) ∧ w = w' := by
  go_enter Try.func24, Try.ntmps24
  go_wp2_with (go_at_call 46; refine (unpackBlock _ _ ha).mono ?_; rintro e w' ⟨rfl, rfl⟩)
  go_ret2
  exact ⟨rfl, rfl⟩

/-- greater: by file, then by place -/
def gt (a b : Nat) : Bool := decide (b / 4294967296 < a / 4294967296) || (a / 4294967296 == b / 4294967296 && decide (b % 4294967296 < a % 4294967296))
def ge (a b : Nat) : Bool := decide (b / 4294967296 < a / 4294967296) || (a / 4294967296 == b / 4294967296 && decide (b % 4294967296 ≤ a % 4294967296))

set_option maxHeartbeats 400000 in
theorem greater (a b : Nat) (w : World) (ha : a < 18446744073709551616) (hb : b < 18446744073709551616) :
    Calls Try.prog 43 #[.int .u64 a, .int .u64 b] w fun e w' => e = .returned (.bool (gt a b)) ∧ w = w' := by
  go_enter Try.func43, Try.ntmps43
  go_wp2_with (go_at_call 42; refine (unpackMapper _ _ (by omega)).mono ?_; rintro e w' ⟨rfl, rfl⟩)
  all_goals
    go_ret
    exact ⟨eqi (by simp [gt]; omega), rfl⟩

set_option maxHeartbeats 400000 in
theorem greaterEq (a b : Nat) (w : World) (ha : a < 18446744073709551616) (hb : b < 18446744073709551616) :
    Calls Try.prog 44 #[.int .u64 a, .int .u64 b] w fun e w' => e = .returned (.bool (ge a b)) ∧ w = w' := by
  go_enter Try.func44, Try.ntmps44
  go_wp2_with (go_at_call 42; refine (unpackMapper _ _ (by omega)).mono ?_; rintro e w' ⟨rfl, rfl⟩)
  all_goals
    go_ret
    exact ⟨eqi (by simp [ge]; omega), rfl⟩

set_option maxHeartbeats 400000 in
theorem mapperCompare (a b : Nat) (w : World) (ha : a < 18446744073709551616) (hb : b < 18446744073709551616) :
    Calls Try.prog 22 #[.int .u64 a, .int .u64 b] w fun e w' => e = .returned (.tuple #[.bool (gt a b), .bool (ge a b)]) ∧ w = w' := by
  go_enter Try.func22, Try.ntmps22
  go_wp2_with (first | (go_at_call 43; refine (greater _ _ _ (by omega) (by omega)).mono ?_; rintro e w' ⟨rfl, rfl⟩) | (go_at_call 44; refine (greaterEq _ _ _ (by omega) (by omega)).mono ?_; rintro e w' ⟨rfl, rfl⟩))
  go_ret2
  exact ⟨rfl, rfl⟩

set_option maxHeartbeats 400000 in
theorem metaOverlaps (a b c d : Int) (w : World) :
    Calls Try.prog 16 #[.int .i64 a, .int .i64 b, .int .i64 c, .int .i64 d] w fun e w' => e = .returned (.bool (decide (a ≤ d) && decide (c ≤ b))) ∧ Below w.heap.size w w' := by
  go_enter Try.func16, Try.ntmps16
  go_wp2
  all_goals
    go_ret
    exact ⟨eqi (by simp; omega), (Below.refl _ _).alloc (Nat.le_refl _) _⟩

set_option maxHeartbeats 800000 in
theorem refAlive (w : World) :
    Calls Try.prog 14 #[] w fun e w' => e = .returned (.bool true) ∧ Below w.heap.size w w' := by
  go_enter Try.func14, Try.ntmps14
  go_wp2_with fail
  refine (headRef_ok 3 5 _ (by omega) (by omega)).mono ?_
  rintro e w1 ⟨rfl, hb1⟩
  have e0 : bits .or .u64 ((3 : Nat) * 16777216 : Int) (5 : Nat) = (50331653 : Nat) := by kernel_rfl
  rw [e0]
  go_wp2_with fail
  refine (headUnpack 50331653 _).mono ?_
  rintro e w2 ⟨rfl, rfl⟩
  go_wp2_with fail
  refine (metaOverlaps _ _ _ _ _).mono ?_
  rintro e w3 ⟨rfl, hb3⟩
  have e1 : (decide ((1 : Int) ≤ 3) && decide ((2 : Int) ≤ 2)) = true := by decide
  rw [e1]
  go_wp2_with fail
  go_ret
  exact ⟨rfl, hb1.trans (hb3.mono hb1.size)⟩
end Go.Proofs.Ytdinjpemofkdaaa
