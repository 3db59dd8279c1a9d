/-
  PutBig of four bytes.
-/
import Derived.Test.YtfllcbcokncgpaaGreatDoorRefs2
namespace Go.Proofs.YtfllcbcokncgpaaGreatDoor
set_option linter.unusedSimpArgs false
set_option linter.unusedVariables false
open Go.RowKit

/-- rows of other types are kept -/
def Keeps (e : TypeId) (w w' : World) : Prop := ∀ base2 e2 size2 v2 n2 xs2, e2 ≠ e → w.ownsRow base2 e2 size2 v2 n2 xs2 → w'.ownsRow base2 e2 size2 v2 n2 xs2
theorem Keeps.trans {e : TypeId} {a b c : World} (h : Keeps e a b) (k : Keeps e b c) : Keeps e a c := fun _ _ _ _ _ _ ht ho => k _ _ _ _ _ _ ht (h _ _ _ _ _ _ ht ho)
theorem Keeps.grown {w w' : World} {base size n : Nat} {e : TypeId} {v : Value} {xs : List Value} {o : Obj} (h : (w.alloc o).ownsRow base e size v n xs) (hg : (w.alloc o).grownBy w' v.ownBlock) : Keeps e w w' := fun _ _ _ _ _ _ ht ho => own_keep h hg (own_alloc ho o) ht

set_option maxRecDepth 100000 in
set_option maxHeartbeats 2000000 in
theorem putBig4_any (base n x : Nat) (v : Value) (bs : List Value) (w : World) (h : w.ownsRow base 5 1 v n bs) (hn : n ≤ 1000000) (hx : x < 18446744073709551616) (hbase : base ≤ w.heap.size) :
    Calls Tryz.prog 22 #[v, .int .u64 x, .int .i64 4] w fun e w' => ∃ v', e = .returned v' ∧ w'.ownsRow base 5 1 v' (n + 1 + 1 + 1 + 1) ((((bs ++ [.int .u8 ((x : Int) / 16777216 % 256)]) ++ [.int .u8 ((x : Int) / 65536 % 256)]) ++ [.int .u8 ((x : Int) / 256 % 256)]) ++ [.int .u8 ((x : Int) % 256)]) ∧ Chg (fun q => base ≤ q) w w' ∧ Keeps 5 w w' := by
  obtain ⟨i0, hi, hz0, hz1, hz2⟩ := info_parts infoU8
  obtain ⟨va, vc, rfl⟩ := own_form h
  have h0 := h
  go_enter Tryz.func22, Tryz.ntmps22
  go_wp2_with fail
  refine wp_loop_rounds 5 ?_
  rw [rounds_succ]
  have hO0 := own_alloc h0 (.cells #[.int .u8 ((x : Int) / 16777216 % 256)] 5)
  go_wp2_with (first | (at_builtin; refine list_app 27 5 i0 _ 1 1 rfl (.tmp 14) (.tmp 21) rfl rfl Tryz.underlying27 hi hz0 hz1 hz2 rfl (by decide) (by decide) base (.slice va (n) vc) (n) (bs) rfl hO0 w.heap.size rfl [.int .u8 ((x : Int) / 16777216 % 256)] rfl (heap_alloc_new w _) (one1 _ _) (by omega) (by simp; omega) ?_; intro v1 w1 h1 hg1) | fail)
  obtain ⟨a1, c1, rfl⟩ := own_form h1
  have hc1 : Chg (fun q => base ≤ q) w w1 := (((Chg.refl (fun q => base ≤ q) w).alloc (.cells #[.int .u8 ((x : Int) / 16777216 % 256)] 5)).grown hg1 (fun q hq => (hO0.lt q hq).1))
  have hz10 := hc1.size
  have hk1 : Keeps 5 w w1 := Keeps.grown hO0 hg1
  rw [rounds_succ]
  have hO1 := own_alloc h1 (.cells #[.int .u8 ((x : Int) / 65536 % 256)] 5)
  go_wp2_with (first | (at_builtin; refine list_app 27 5 i0 _ 1 1 rfl (.tmp 14) (.tmp 21) rfl rfl Tryz.underlying27 hi hz0 hz1 hz2 rfl (by decide) (by decide) base (.slice a1 (n + 1) c1) (n + 1) ((bs ++ [.int .u8 ((x : Int) / 16777216 % 256)])) rfl hO1 w1.heap.size rfl [.int .u8 ((x : Int) / 65536 % 256)] rfl (heap_alloc_new w1 _) (one1 _ _) (by omega) (by simp; omega) ?_; intro v2 w2 h2 hg2) | fail)
  obtain ⟨a2, c2, rfl⟩ := own_form h2
  have hc2 : Chg (fun q => base ≤ q) w w2 := hc1.trans (((Chg.refl (fun q => base ≤ q) w1).alloc (.cells #[.int .u8 ((x : Int) / 65536 % 256)] 5)).grown hg2 (fun q hq => (hO1.lt q hq).1))
  have hz11 := hc2.size
  have hk2 : Keeps 5 w w2 := hk1.trans (Keeps.grown hO1 hg2)
  rw [rounds_succ]
  have hO2 := own_alloc h2 (.cells #[.int .u8 ((x : Int) / 256 % 256)] 5)
  go_wp2_with (first | (at_builtin; refine list_app 27 5 i0 _ 1 1 rfl (.tmp 14) (.tmp 21) rfl rfl Tryz.underlying27 hi hz0 hz1 hz2 rfl (by decide) (by decide) base (.slice a2 (n + 1 + 1) c2) (n + 1 + 1) (((bs ++ [.int .u8 ((x : Int) / 16777216 % 256)]) ++ [.int .u8 ((x : Int) / 65536 % 256)])) rfl hO2 w2.heap.size rfl [.int .u8 ((x : Int) / 256 % 256)] rfl (heap_alloc_new w2 _) (one1 _ _) (by omega) (by simp; omega) ?_; intro v3 w3 h3 hg3) | fail)
  obtain ⟨a3, c3, rfl⟩ := own_form h3
  have hc3 : Chg (fun q => base ≤ q) w w3 := hc2.trans (((Chg.refl (fun q => base ≤ q) w2).alloc (.cells #[.int .u8 ((x : Int) / 256 % 256)] 5)).grown hg3 (fun q hq => (hO2.lt q hq).1))
  have hz12 := hc3.size
  have hk3 : Keeps 5 w w3 := hk2.trans (Keeps.grown hO2 hg3)
  rw [rounds_succ]
  have hO3 := own_alloc h3 (.cells #[.int .u8 ((x : Int) % 256)] 5)
  go_wp2_with (first | (at_builtin; refine list_app 27 5 i0 _ 1 1 rfl (.tmp 14) (.tmp 21) rfl rfl Tryz.underlying27 hi hz0 hz1 hz2 rfl (by decide) (by decide) base (.slice a3 (n + 1 + 1 + 1) c3) (n + 1 + 1 + 1) ((((bs ++ [.int .u8 ((x : Int) / 16777216 % 256)]) ++ [.int .u8 ((x : Int) / 65536 % 256)]) ++ [.int .u8 ((x : Int) / 256 % 256)])) rfl hO3 w3.heap.size rfl [.int .u8 ((x : Int) % 256)] rfl (heap_alloc_new w3 _) (one1 _ _) (by omega) (by simp; omega) ?_; intro v4 w4 h4 hg4) | fail)
  obtain ⟨a4, c4, rfl⟩ := own_form h4
  have hc4 : Chg (fun q => base ≤ q) w w4 := hc3.trans (((Chg.refl (fun q => base ≤ q) w3).alloc (.cells #[.int .u8 ((x : Int) % 256)] 5)).grown hg4 (fun q hq => (hO3.lt q hq).1))
  have hz13 := hc4.size
  have hk4 : Keeps 5 w w4 := hk3.trans (Keeps.grown hO3 hg4)
  rw [rounds_succ]
  go_wp2_with fail
  go_ret
  exact ⟨_, rfl, h4, hc4, hk4⟩
end Go.Proofs.YtfllcbcokncgpaaGreatDoor
