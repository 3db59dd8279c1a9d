/-
  impl.xor over one part: samples are appended, each by a step.
-/
import Derived.Test.YthkdjjejcbndnaaGreatDoorXb
import Derived.IntWalk
import Derived.StillTailTactics
namespace Go.Proofs.YthkdjjejcbndnaaGreatDoor
set_option linter.unusedSimpArgs false
set_option linter.unusedVariables false
open Go.RowKit
attribute [local go_sem] run_store_float run_store_iface

theorem append_method (q : Nat) (t : World) : (method 350 131 (.pointer (some ⟨q, 0, none⟩)) "Append").run Tryz.prog t = .ok (120, .pointer (some ⟨q, 0, none⟩)) t := by kernel_rfl
theorem append_nil (q : Nat) (t : World) : (nilAhead 350 131 (.pointer (some ⟨q, 0, none⟩)) "Append").run Tryz.prog t = .ok (some false) t := by kernel_rfl
theorem hmk (fn : Fn) (first cap : Array Value) (w : World) : (Instr.makeFunc fn first cap).run Tryz.prog w = .ok (.func fn first cap) w := rfl
set_option maxRecDepth 100000 in
theorem float_any (n : Int) (w : World) : Calls Tryz.prog 40 #[.int .u64 n] w fun e w' => e = .returned (.float .f64 n.toNat) ∧ w = w' := by
  have hx := f64from
  go_enter Tryz.func40, Tryz.ntmps40
  go_wp2_with fail
  go_ret
  exact ⟨rfl, rfl⟩

set_option maxRecDepth 100000 in
set_option maxHeartbeats 4000000 in
theorem xor_one (b off cap : Nat) (v : Value) (l : List (Int × Int)) (w : World) (hb : w.cell? ⟨b, off, none⟩ = some v) (hl : Pairs w w.heap.size .i64 .u64 v l) (hm : l.length ≤ 2147483646)
    (I : Nat → World → Nat → Nat → Prop)
    (h0 : ∀ W p q g, w.heap.size ≤ p → w.heap.size ≤ q → w.heap.size ≤ g → Below w.heap.size w W → XC W p g 2 (List.replicate 128 (.int .u8 0)) → Blk W q [.pointer (some ⟨p, 0, none⟩), .int .i64 (-9223372036854775808), .float .f64 0, .int .u64 0, .int .u8 255, .int .u8 0] AT → I 0 W p q)
    (hI : ∀ k W W' p q, I k W p q → Chg (fun _ => False) W W' → I k W' p q)
    (hs : ∀ k (hk : k < l.length) W p q, w.heap.size ≤ p → w.heap.size ≤ q → Below w.heap.size w W → I k W p q →
      Calls Tryz.prog 120 #[.pointer (some ⟨q, 0, none⟩), .int .i64 l[k].1, .float .f64 l[k].2.toNat] W fun e w' => e = .returned (.tuple #[]) ∧ I (k + 1) w' p q ∧ Below w.heap.size W w') :
    Calls Tryz.prog 25 #[.slice (some ⟨b, off, none⟩) 1 cap] w fun e w' => ∃ p q, e = .returned (.pointer (some ⟨p, 0, none⟩)) ∧ w.heap.size ≤ p ∧ I l.length w' p q ∧ Below w.heap.size w w' := by
  obtain ⟨ao, ca, rfl, h1, h2⟩ := hl.form
  have hbl := (lt_of_cell hb).1
  have hma := append_method
  have hna := append_nil
  have hmf := hmk
  go_enter Tryz.func25, Tryz.ntmps25
  go_wp2_with (first
    | (go_at_call 38; refine (newXOR_any _).mono ?_; rintro e w1 ⟨rfl, hx, hB1⟩)
    | fail)
  refine wp_loop_rounds 2 ?_
  rw [rounds_succ]
  have hb1 := (hB1.cell (p := ⟨b, off, none⟩) hbl).trans hb
  go_wp2_with (first
    | (go_at_call 39; refine (appender0_any _ _ _ _ hx rfl rfl).mono ?_; rintro e w2 ⟨q, rfl, hq, hbq, hB2⟩)
    | fail)
  have hB := bnx hB1 hB2
  have hz1 := hB1.size
  have hx2 := hx.chg ((Chg.refl (fun _ => False) w1).calls hB2) (fun h => h) (fun h => h)
  have hstart := h0 w2 (w.heap.size + 1) q w.heap.size (by omega) (by omega) (by omega) hB hx2 hbq
  have hlb : ∀ wr, Below w.heap.size w wr → ∀ i (hi : i < l.length), ∃ b off, ao = some ⟨b, off, none⟩ ∧ wr.cell? ⟨b, off + i * 2, none⟩ = some (.int .i64 l[i].1) ∧ wr.cell? ⟨b, off + i * 2 + 1, none⟩ = some (.int .u64 l[i].2) := fun wr hw i hi => by
    obtain ⟨b, off, h1, _, _, h2⟩ := (hl.below hw (Nat.le_refl _)).at_ (by omega)
    exact ⟨b, off, h1, h2 i hi⟩
  have HL := Lib.hid hlb
  clear hlb hl hb hb1 hx hx2 hbq
  have hp0 : w.heap.size ≤ w.heap.size + 1 := by omega
  have hq0 : w.heap.size ≤ q := by omega
  generalize w.heap.size + 1 = p at *
  go_loopw [26] (fun i wr => ∃ k : Nat, k ≤ l.length ∧ i = .int .i64 k ∧ I k wr p q ∧ Below w.heap.size w wr) (fun i _ => l.length - (intOf i).toNat)
  case atStart => exact ⟨0, Nat.zero_le _, rfl, hstart, hB⟩
  case round =>
    obtain ⟨k, hk, rfl, hIk, hBk⟩ := hrel
    by_cases hlt : k < l.length
    · obtain ⟨b2, o2, rfl, c0, c1⟩ := HL.out wr hBk k hlt
      have hst := hs k hlt
      generalize l[k].1 = t at *
      generalize l[k].2 = x at *
      have q1 : (k : Int) < (l.length : Int) := by omega
      have hnb := Blk.new wr [.int .i64 t, .int .u64 x] 41
      have hcn := (Chg.refl (fun _ => False) wr).alloc (.cells #[.int .i64 t, .int .u64 x] 41)
      have hIn := hI k wr _ p q hIk hcn.drew
      have hBn := hBk.alloc hBk.size (.cells #[.int .i64 t, .int .u64 x] 41)
      have d0 := hnb.cell 0
      have d1 := hnb.cell 1
      have hap := hst _ p q (by omega) (by omega) hBn.drew hIn
      go_wp2_with fail
      have hfl := float_any x
      generalize hW : (wr.alloc (.cells #[.int .i64 t, .int .u64 x] 41)) = W at *
      have d0' : W.drew.cell? ⟨wr.heap.size, 0, none⟩ = some (.int .i64 t) := d0
      have d1' : W.drew.cell? ⟨wr.heap.size, 1, none⟩ = some (.int .u64 x) := d1
      clear hW
      go_still_tail 9, (by kernel_rfl)
      still_call ((hfl _).mono (by rintro e w' ⟨rfl, rfl⟩; exact ⟨rfl, rfl⟩))
      repeat still_step
      refine wpStill_nil ?_
      change wpList _ _ _ _ _ W.drew
      go_wp2_with (first
        | (go_at_call 120; refine hap.mono ?_; rintro e w3 ⟨rfl, hI3, hB3⟩)
        | fail)
      go_roundw
      case rel => exact ⟨k + 1, by omega, by go_num, hI3, hBn.drew.trans hB3⟩
      case measure => simp [intOf]; omega
    · obtain rfl : k = l.length := by omega
      go_wp2_with fail
      rw [rounds_succ]
      go_wp2_with fail
      go_ret
      exact ⟨_, _, rfl, by omega, hIk, hBk⟩
end Go.Proofs.YthkdjjejcbndnaaGreatDoor
