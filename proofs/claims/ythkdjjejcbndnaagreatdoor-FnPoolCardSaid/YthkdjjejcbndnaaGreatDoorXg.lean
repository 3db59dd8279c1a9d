/-
  impl.XorSamples over any bytes, whose samples come by steps.
-/
import Derived.Test.YthkdjjejcbndnaaGreatDoorXf
import Derived.Test.YthkdjjejcbndnaaGreatDoorSafe2
import Derived.Deep.Cut
namespace Go.Proofs.YthkdjjejcbndnaaGreatDoor
set_option linter.unusedSimpArgs false
set_option linter.unusedVariables false
open Go.RowKit
attribute [local go_sem] run_store_float run_store_iface

set_option maxRecDepth 100000 in
theorem fromData1_any (a : Option Addr) (n c : Nat) (w : World) :
    Calls Tryz.prog 30 #[.int .u8 1, .slice a n c] w fun e w' => e = .returned (.tuple #[.iface 57 (.pointer (some ⟨w.heap.size, 0, none⟩)), .nilIface]) ∧ Blk w' w.heap.size [.slice a n c, .int .u8 0] 115 ∧ Below w.heap.size w w' := by
  go_enter Tryz.func30, Tryz.ntmps30
  go_wp2_with fail
  go_ret2
  exact ⟨rfl, Blk.new w [.slice a n c, .int .u8 0] _, below_new w _⟩
theorem iterator_method (p : Nat) (t : World) : (method 350 57 (.pointer (some ⟨p, 0, none⟩)) "Iterator").run Tryz.prog t = .ok (43, .pointer (some ⟨p, 0, none⟩)) t := by kernel_rfl

set_option maxRecDepth 100000 in
theorem iterI_any (p : Nat) (w : World) (R : Nat → World → Prop) (h : Calls Tryz.prog 55 #[.pointer (some ⟨p, 0, none⟩), .nilIface] w fun e w' => ∃ I, e = .returned (.pointer (some ⟨I, 0, none⟩)) ∧ R I w') :
    Calls Tryz.prog 43 #[.pointer (some ⟨p, 0, none⟩), .nilIface] w fun e w' => ∃ I, e = .returned (.iface 129 (.pointer (some ⟨I, 0, none⟩))) ∧ R I w' := by
  go_enter Tryz.func43, Tryz.ntmps43
  go_wp2_with (first
    | (go_at_call 55; refine h.mono ?_; rintro e w1 ⟨I, rfl, hR⟩)
    | fail)
  go_ret
  exact ⟨I, rfl, hR⟩
/-- an iterator has just been made over bytes of the call's own -/
structure Made (W W1 : World) (I : Nat) (x y : UInt8) (m : List UInt8) (sv : Value) : Prop where
  blk : Blk W1 I [sv, .int .i64 0, .int .u64 0, .int .u8 0, .int .u8 (lastB m), .int .u16 (Lib.beNat [x, y] : Nat), .int .u16 0, .int .i64 (-9223372036854775808), .float .f64 0, .int .u8 0, .int .u8 0, .int .u64 0, .nilIface] IT
  src : BB W1 I sv m
  own : ∃ g c, W1.ownsRow W.heap.size 5 1 (.slice (some ⟨g, 0, none⟩) (m.length + 2) c) (m.length + 2) (Lib.byteCells (x :: y :: m)) ∧ sv = if c = 2 then .slice (some ⟨g, 0, none⟩) 0 0 else .slice (some ⟨g, 2, none⟩) m.length (c - 2)
  low : W.heap.size ≤ I
  bel : Below W.heap.size W W1

set_option maxRecDepth 100000 in
set_option maxHeartbeats 4000000 in
theorem xs1_of (q0 q1 q2 : Nat) (v : Value) (x y : UInt8) (m : List UInt8) (S : List (Int × Int)) (W : World) (b0 : Blk W q0 [v] 26) (b1 : Blk W q1 [.slice none 0 0] 24) (b2 : Blk W q2 [.bool false] 4) (hv : Bytes W v (x :: y :: m)) (hl : m.length ≤ 2147483645)
    (hY : ∀ W1 I sv, Made W W1 I x y m sv → Calls Tryz.prog 31 #[.iface 129 (.pointer (some ⟨I, 0, none⟩))] W1 fun e w' => ∃ u, e = .returned (.tuple #[u, .bool true]) ∧ w'.ownsRow W1.heap.size 41 2 u S.length (flat .i64 .u64 S) ∧ Chg (fun q => q = I) W1 w') :
    Calls Tryz.prog 29 #[.pointer (some ⟨q0, 0, none⟩), .pointer (some ⟨q1, 0, none⟩), .pointer (some ⟨q2, 0, none⟩)] W fun e w' => e = .returned (.tuple #[]) ∧ (∃ u, Blk w' q1 [u] 24 ∧ Blk w' q2 [.bool true] 4 ∧ w'.ownsRow W.heap.size 41 2 u S.length (flat .i64 .u64 S)) ∧ Chg (fun k => k = q1 ∨ k = q2) W w' := by
  have hne : q1 ≠ q2 := b1.ne b2 (by decide)
  have hmi := iterator_method
  obtain ⟨a, c, rfl, h1, h2⟩ := hv.form
  obtain ⟨v2, w2, hr, ho, hb2, g2, c2, rfl⟩ := copy_bytes W _ _ hv (by simp; omega)
  have k0 : (W.alloc (.cells #[] 5)).cell? ⟨q0, 0, none⟩ = some (.slice a (x :: y :: m).length c) := (b0.alloc _).cell 0
  have hfd := fromData1_any (some ⟨g2, 0, none⟩) (x :: y :: m).length c2 w2
  rw [show (x :: y :: m).length = m.length + 2 by simp] at *
  have HR := Lib.hid hr
  have HO := Lib.hid ho
  clear hr ho h1 h2 hv
  go_enter Tryz.func29, Tryz.ntmps29
  go_wp2_with (first
    | (at_builtin; refine list_run 26 26 rfl (.tmp 6) (.tmp 7) rfl rfl rfl rfl HR.out ?_)
    | (go_at_call 30; refine hfd.mono ?_; rintro e w3 ⟨rfl, hp, hb3⟩)
    | fail)
  have hO := HO.out
  have hw2 := hb2.size
  have hB3 := bnx hb2 hb3
  have hO3 := own_chg hO ((Chg.refl (fun _ => False) w2).calls hb3) (fun _ _ _ h => h)
  have hby := (Bytes.own hO).up hb3
  have hit := iterI_any w2.heap.size w3 _ (iter_any w2.heap.size g2 c2 x y m w3 (hp.cell 0) hby hl _ rfl)
  go_wp2_with (first
    | (go_at_call 43; refine hit.mono ?_; rintro e w4 ⟨I, rfl, hI, hbI, hb4, hBB⟩)
    | fail)
  have hO4 := own_chg hO3 ((Chg.refl (fun _ => False) w3).calls hb4) (fun _ _ _ h => h)
  have hw3 := hb3.size
  have hB4 := bnx hB3 hb4
  have hYc := hY w4 I _ ⟨hbI, hBB, ⟨g2, c2, hO4, rfl⟩, by omega, hB4⟩
  go_wp2_with (first
    | (go_at_call 31; refine hYc.mono ?_; rintro e w5 ⟨u, rfl, hOu, hc5⟩; obtain ⟨ua, uc, rfl⟩ := own_form hOu; have d1 := b1.chg ((Chg.ofBelow hB4)) (by have := b1.lt; omega); have d2 := b2.chg ((Chg.ofBelow hB4)) (by have := b2.lt; omega); have e1 := d1.chg hc5 (by have := b1.lt; omega); have e2 := d2.chg hc5 (by have := b2.lt; omega); have j1 := e1.cell 0; have j2 := e2.cell 0; have f1 := e1.free 0; have f2 := e2.free 0)
    | fail)
  have hlt1 := b1.lt
  have hlt2 := b2.lt
  have s1 := e1.set 0 (.slice ua S.length uc)
  have s2 := e2.chg (chg_set w5 q1 0 (.slice ua S.length uc)) (fun h => hne h.symm)
  have t1 := s1.chg (chg_set _ q2 0 (.bool true)) hne
  have t2 := s2.set 0 (.bool true)
  have hsz := hB4.size
  have hOw : ((w5.setCell ⟨q1, 0, none⟩ (.slice ua S.length uc)).setCell ⟨q2, 0, none⟩ (.bool true)).ownsRow W.heap.size 41 2 (.slice ua S.length uc) S.length (flat .i64 .u64 S) :=
    own_chg (own_chg (own_base hOu hsz) (chg_set w5 q1 0 (.slice ua S.length uc)) (fun g h _ => by omega)) (chg_set _ q2 0 (.bool true)) (fun g h _ => by omega)
  have hcW : Chg (fun k => k = q1 ∨ k = q2) W w5 := ⟨hc5.os.trans hB4.os, hc5.tape.trans hB4.tape, hc5.output.trans hB4.output, Nat.le_trans hB4.size hc5.size, fun k hk hn => (hc5.block k (by omega) (by omega)).trans (hB4.block k hk)⟩
  go_end0
  exact ⟨rfl, ⟨_, t1, t2, hOw⟩, (hcW.setCell ⟨q1, 0, none⟩ (.inl rfl) _).setCell ⟨q2, 0, none⟩ (.inr rfl) _⟩
/-- three variables -/
theorem three_cells (w : World) (v0 v1 v2 : Value) (t0 t1 t2 : TypeId) : ∃ W, W = ((w.alloc (.cells #[v0] t0)).alloc (.cells #[v1] t1)).alloc (.cells #[v2] t2) ∧ Blk W w.heap.size [v0] t0 ∧ Blk W (w.heap.size + 1) [v1] t1 ∧ Blk W (w.heap.size + 1 + 1) [v2] t2 ∧ W.heap.size = w.heap.size + 3 ∧ Below w.heap.size w W := by
  refine ⟨_, rfl, ((Blk.new w [v0] _).alloc _).alloc _, ?_, ?_, by simp, ((below_new w _).alloc (by simp) _).alloc (by simp; omega) _⟩
  · have := (Blk.new (w.alloc (.cells #[v0] t0)) [v1] t1).alloc (.cells #[v2] t2)
    simpa using this
  · have := Blk.new ((w.alloc (.cells #[v0] t0)).alloc (.cells #[v1] t1)) [v2] t2
    simpa using this

set_option maxRecDepth 100000 in
set_option maxHeartbeats 4000000 in
theorem xorSamples_of (v : Value) (x y : UInt8) (m : List UInt8) (S : List (Int × Int)) (w : World) (hv : Bytes w v (x :: y :: m)) (hl : m.length ≤ 2147483645)
    (hY : ∀ W W1 I sv, Below w.heap.size w W → Made W W1 I x y m sv → Calls Tryz.prog 31 #[.iface 129 (.pointer (some ⟨I, 0, none⟩))] W1 fun e w' => ∃ u, e = .returned (.tuple #[u, .bool true]) ∧ w'.ownsRow W1.heap.size 41 2 u S.length (flat .i64 .u64 S) ∧ Chg (fun q => q = I) W1 w') :
    Calls Tryz.prog 14 #[v] w fun e w' => ∃ u, e = .returned (.tuple #[u, .bool true]) ∧ Pairs w' w'.heap.size .i64 .u64 u S ∧ Below w.heap.size w w' := by
  have hmf := hmk
  obtain ⟨a, c, rfl, h1, h2⟩ := hv.form
  obtain ⟨W, hWe, b0, b1, b2, hsz, hb⟩ := three_cells w (.slice a (x :: y :: m).length c) (.slice none 0 0) (.bool false) 26 24 4
  have HW := Lib.hid hWe.symm
  have hnb := below_new W (.cells #[.bool false] 4)
  have hvW := (hv.up hb).up hnb
  have hxs := xs1_of w.heap.size (w.heap.size + 1) (w.heap.size + 1 + 1) _ x y m S _ (b0.alloc (.cells #[.bool false] 4)) (b1.alloc (.cells #[.bool false] 4)) (b2.alloc (.cells #[.bool false] 4)) hvW hl (fun W1 I sv hM => hY _ W1 I sv (bnx hb hnb) hM)
  clear hWe hv h1 h2 hvW
  have HL := Lib.hid (show (x :: y :: m).length = m.length + 2 by simp)
  generalize (x :: y :: m).length = n at *
  go_enter Tryz.func14, Tryz.ntmps14
  go_upto_region 1 with fail
  rw [HW.out]
  go_wp2_with fail
  refine (safe_ok 29 _ W (fun w' => ∃ u, Blk w' (w.heap.size + 1) [u] 24 ∧ Blk w' (w.heap.size + 1 + 1) [.bool true] 4 ∧ w'.ownsRow (W.alloc (.cells #[.bool false] 4)).heap.size 41 2 u S.length (flat .i64 .u64 S)) (fun k => k = w.heap.size + 1 ∨ k = w.heap.size + 1 + 1) (fun _ => by kernel_rfl) (by omega) hxs).mono ?_
  rintro e w2 ⟨rfl, w1, ⟨u, a1, a2, hO⟩, hc1, hc2⟩
  obtain ⟨ua, uc, rfl⟩ := own_form hO
  have hs1 := hc1.size
  simp at hs1
  have hs2 := hc2.size
  have d1 := a1.chg hc2 (by omega)
  have d2 := a2.chg hc2 (by omega)
  have y1 := d1.cell 0
  have y2 := d2.cell 0
  have z1 := d1.free 0
  have z2 := d2.free 0
  go_wp2_with fail
  have r1 : ((w2.setCell ⟨w.heap.size + 1, 0, none⟩ (.slice ua S.length uc)).setCell ⟨w.heap.size + 1 + 1, 0, none⟩ (.bool true)).cell? ⟨w.heap.size + 1, 0, none⟩ = some (.slice ua S.length uc) := ((d1.set 0 (.slice ua S.length uc)).chg (chg_set _ (w.heap.size + 1 + 1) 0 (.bool true)) (by omega)).cell 0
  have r2 : ((w2.setCell ⟨w.heap.size + 1, 0, none⟩ (.slice ua S.length uc)).setCell ⟨w.heap.size + 1 + 1, 0, none⟩ (.bool true)).cell? ⟨w.heap.size + 1 + 1, 0, none⟩ = some (.bool true) := ((d2.chg (chg_set w2 (w.heap.size + 1) 0 (.slice ua S.length uc)) (by omega)).set 0 (.bool true)).cell 0
  have hcs : Chg (fun k => w.heap.size ≤ k ∧ k < W.heap.size) w2 ((w2.setCell ⟨w.heap.size + 1, 0, none⟩ (.slice ua S.length uc)).setCell ⟨w.heap.size + 1 + 1, 0, none⟩ (.bool true)) := ((Chg.refl (fun k => w.heap.size ≤ k ∧ k < W.heap.size) w2).setCell ⟨w.heap.size + 1, 0, none⟩ ⟨by simp only; omega, by simp only; omega⟩ _).setCell ⟨w.heap.size + 1 + 1, 0, none⟩ ⟨by simp only; omega, by simp only; omega⟩ _
  have hO2 := own_chg (own_chg hO hc2 (fun g h _ => by simp at h; omega)) hcs (fun g h _ => by simp at h; omega)
  refine bodyPost_ret (v := .tuple #[.slice ua S.length uc, .bool true]) (by simp [results, Tryz.results14, go_sem, r1, r2]) rfl ⟨_, rfl, Pairs.own hO2, ?_⟩
  exact ((hb.trans (hnb.mono (by omega))).trans (hc1.below _ (by simp; omega) (fun k hk => by omega))).trans ((hc2.below _ (by omega) (fun k hk => by omega)).trans (hcs.below _ (by omega) (fun k hk => by omega)))
end Go.Proofs.YthkdjjejcbndnaaGreatDoor
