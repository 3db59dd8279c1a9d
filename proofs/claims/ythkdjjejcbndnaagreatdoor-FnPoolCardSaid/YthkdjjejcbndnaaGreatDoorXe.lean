/-
  impl.yielded over an XOR chunk's iterator: samples come by steps.
-/
import Derived.Test.YthkdjjejcbndnaaGreatDoorXd
namespace Go.Proofs.YthkdjjejcbndnaaGreatDoor
set_option linter.unusedSimpArgs false
set_option linter.unusedVariables false
open Go.RowKit

theorem next_method (I : Nat) (t : World) : (method 350 129 (.pointer (some ⟨I, 0, none⟩)) "Next").run Tryz.prog t = .ok (56, .pointer (some ⟨I, 0, none⟩)) t := by kernel_rfl
theorem at_method (I : Nat) (t : World) : (method 350 129 (.pointer (some ⟨I, 0, none⟩)) "At").run Tryz.prog t = .ok (115, .pointer (some ⟨I, 0, none⟩)) t := by kernel_rfl
theorem err_method (I : Nat) (t : World) : (method 350 129 (.pointer (some ⟨I, 0, none⟩)) "Err").run Tryz.prog t = .ok (57, .pointer (some ⟨I, 0, none⟩)) t := by kernel_rfl
set_option maxRecDepth 100000 in
theorem bitsOf_any (n : Nat) (w : World) : Calls Tryz.prog 52 #[.float .f64 n] w fun e w' => e = .returned (.int .u64 n) ∧ w = w' := by
  have hx := f64bits
  go_enter Tryz.func52, Tryz.ntmps52
  go_wp2_with fail
  go_ret
  exact ⟨rfl, rfl⟩
theorem infoSample : (Tryz.prog.info? 41).map (fun i => (i.zero, i.size, i.bytes)) = some (some (.agg #[.int .i64 0, .int .u64 0]), 2, 16) := by kernel_rfl
theorem Chg.grownNew {S : Nat → Prop} {a b c : World} {r : Option Nat} (h : Chg S a b) (hg : b.grownBy c r) (hr : ∀ k, r = some k → a.heap.size ≤ k) : Chg S a c :=
  ⟨hg.os.trans h.os, hg.tape.trans h.tape, hg.output.trans h.output, Nat.le_trans h.size hg.size, fun k hk hn => (hg.block k (Nat.lt_of_lt_of_le hk h.size) (fun c => by have := hr k c.symm; omega)).trans (h.block k hk hn)⟩
/-- the length of a slice -/
def lenOf : Value → Nat
  | .slice _ n _ => n
  | _ => 0

set_option maxRecDepth 100000 in
set_option maxHeartbeats 4000000 in
theorem yielded_of (I : Nat) (S : List (Int × Int)) (J : Nat → World → Prop) (w : World) (hIw : I < w.heap.size) (hS : S.length ≤ 2147483646) (hwf : ∀ z ∈ S, 0 ≤ z.2) (h0 : J 0 w)
    (hJ : ∀ k W W', J k W → w.heap.size ≤ W.heap.size → Below w.heap.size W W' → J k W')
    (hN : ∀ k (hk : k < S.length) W, w.heap.size ≤ W.heap.size → J k W → Calls Tryz.prog 56 #[.pointer (some ⟨I, 0, none⟩)] W fun e w' => e = .returned (.int .u8 1) ∧ J (k + 1) w' ∧ w'.cell? ⟨I, 7, none⟩ = some (.int .i64 S[k].1) ∧ w'.cell? ⟨I, 8, none⟩ = some (.float .f64 S[k].2.toNat) ∧ Chg (fun q => q = I) W w')
    (hE : ∀ W, w.heap.size ≤ W.heap.size → J S.length W → Calls Tryz.prog 56 #[.pointer (some ⟨I, 0, none⟩)] W fun e w' => e = .returned (.int .u8 0) ∧ w'.cell? ⟨I, 12, none⟩ = some .nilIface ∧ Chg (fun q => q = I) W w') :
    Calls Tryz.prog 31 #[.iface 129 (.pointer (some ⟨I, 0, none⟩))] w fun e w' => ∃ v, e = .returned (.tuple #[v, .bool true]) ∧ w'.ownsRow w.heap.size 41 2 v S.length (flat .i64 .u64 S) ∧ Chg (fun q => q = I) w w' := by
  have hmN := next_method
  have hmA := at_method
  have hmE := err_method
  obtain ⟨i0, hi, hz0, hz1, hz2⟩ := info_parts infoSample
  go_enter Tryz.func31, Tryz.ntmps31
  go_wp2_with fail
  go_loopw [2] (fun v wr => ∃ k : Nat, k ≤ S.length ∧ wr.ownsRow w.heap.size 41 2 v k (flat .i64 .u64 (S.take k)) ∧ J k wr ∧ Chg (fun q => q = I) w wr) (fun v _ => S.length - lenOf v)
  case atStart => exact ⟨0, Nat.zero_le _, World.ownsRow_nil _ _ _ _, h0, Chg.refl _ _⟩
  case round =>
    obtain ⟨k, hk, hown, hJk, hck⟩ := hrel
    obtain ⟨za, zc, rfl⟩ := own_form hown
    have hzw := hck.size
    by_cases hlt : k < S.length
    · have hNk := hN k hlt wr hzw hJk
      have hw2 := hwf S[k] (List.getElem_mem _)
      have htk : flat .i64 .u64 (S.take k) ++ [.int .i64 S[k].1, .int .u64 S[k].2] = flat .i64 .u64 (S.take (k + 1)) := by rw [take_next hlt, flat_append]; rfl
      have hln : ((S[k].2.toNat : Nat) : Int) = S[k].2 := Int.toNat_of_nonneg hw2
      generalize S[k].1 = t at *
      generalize S[k].2 = x at *
      have HT := Lib.hid htk
      have HN := Lib.hid hln
      clear htk hln
      go_wp2_with (first
        | (go_at_call 56; refine hNk.mono ?_; rintro e w1 ⟨rfl, hJ1, c7, c8, hc1⟩)
        | (go_at_call 115; refine (at_any I t x.toNat _ c7 c8).mono ?_; rintro e w2 ⟨rfl, nq, rfl⟩)
        | fail)
      have hO := own_alloc (own_drewN (own_chg hown hc1 (fun g h1 h2 c => by omega)) nq) (.cells #[.int .i64 t, .int .u64 x] 41)
      have hnew := Blk.new (w1.drewN nq) [.int .i64 t, .int .u64 x] 41
      have hB1 := ((Below.refl w.heap.size w1).drew)
      have hck1 := (hck.trans hc1).drewN nq
      have hzz := hck1.size
      have hJ2 := fun W' => hJ (k + 1) w1 W' hJ1 hzz
      have hbn : Below w.heap.size w1 ((w1.drewN nq).alloc (.cells #[.int .i64 t, .int .u64 x] 41)) := (below_drewN (Below.refl _ w1) nq).alloc hzz _
      have hcn := hck1.alloc (.cells #[.int .i64 t, .int .u64 x] 41)
      have hst := hcn.size
      generalize w1.drewN nq = W at *
      go_wp2_with (first
        | (go_at_call 52; refine (bitsOf_any x.toNat _).mono ?_; rintro e w' ⟨rfl, rfl⟩; rw [HN.out])
        | (at_builtin; refine list_app 24 41 i0 _ 2 16 rfl (.tmp 14) (.tmp 19) rfl rfl Tryz.underlying24 hi hz0 hz1 hz2 rfl (by decide) (by decide) w.heap.size (.slice za k zc) k (flat .i64 .u64 (S.take k)) rfl hO W.heap.size rfl [.int .i64 t, .int .u64 x] rfl hnew (one2 _ _ _ _) (by omega) (by omega) ?_; intro v' w3 ho hg)
        | fail)
      have hg' := hcn.grownNew hg (fun q hq => (hO.lt q hq).1)
      obtain ⟨a2, c2, rfl⟩ := own_form ho
      go_roundw
      case rel => exact ⟨k + 1, by omega, by rw [← HT.out]; exact ho, hJ2 w3 (hbn.grown hg hst (fun q hq => (hO.lt q hq).1)), hg'⟩
      case measure => simp [lenOf]; omega
    · obtain rfl : k = S.length := by omega
      have hEk := hE wr hzw hJk
      go_wp2_with (first
        | (go_at_call 56; refine hEk.mono ?_; rintro e w1 ⟨rfl, c12, hc1⟩)
        | fail)
      have d12 : ∀ n, (w1.drewN n).cell? ⟨I, 12, none⟩ = some .nilIface := fun n => c12
      go_quiet ((go_at_call 57; exact Calls.quiet_of_same ((err_any I _ (by exact c12)).mono (fun _ _ h => ⟨h.1, h.2.symm⟩))))
      go_wp2_with fail
      go_ret2
      rw [List.take_length] at hown
      exact ⟨_, rfl, own_drewN (own_chg hown hc1 (fun g h1 h2 c => by omega)) _, (hck.trans hc1).drewN _⟩
end Go.Proofs.YthkdjjejcbndnaaGreatDoor
