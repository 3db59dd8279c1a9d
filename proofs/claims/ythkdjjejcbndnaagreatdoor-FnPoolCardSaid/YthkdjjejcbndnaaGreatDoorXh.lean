/-
  xorAlive is true: one sample is written and read.
-/
import Derived.Test.YthkdjjejcbndnaaGreatDoorXg
namespace Go.Proofs.YthkdjjejcbndnaaGreatDoor
set_option linter.unusedSimpArgs false
set_option linter.unusedVariables false
open Go.RowKit
attribute [local go_sem] run_store_float run_store_iface

abbrev oneS : List (Int × Int) := [(1, 4607182418800017408)]
abbrev oneB : List UInt8 := [2, 63, 240, 0, 0, 0, 0, 0, 0]
theorem xor_alive (b : Nat) (v : Value) (w : World) (hb : w.cell? ⟨b, 0, none⟩ = some v) (hl : Pairs w w.heap.size .i64 .u64 v oneS) :
    Calls Tryz.prog 25 #[.slice (some ⟨b, 0, none⟩) 1 1] w fun e w' => ∃ p, e = .returned (.pointer (some ⟨p, 0, none⟩)) ∧ (∃ l c, XB w' p (0 :: 1 :: l) c ∧ (0 :: 1 :: l) = 0 :: 1 :: oneB) ∧ Below w.heap.size w w' := by
  refine (xor_one b 0 1 v oneS w hb hl (by simp) (fun k W p q => (k = 0 → ∃ g, w.heap.size ≤ g ∧ XC W p g 2 (List.replicate 128 (.int .u8 0)) ∧ Blk W q [.pointer (some ⟨p, 0, none⟩), .int .i64 (-9223372036854775808), .float .f64 0, .int .u64 0, .int .u8 255, .int .u8 0] AT) ∧ (k = 1 → XB W p (0 :: 1 :: oneB) 0)) ?_ ?_ ?_).mono ?_
  · exact fun W p q g _ _ hg _ hx hq => ⟨fun _ => ⟨g, hg, hx, hq⟩, fun h => absurd h (by decide)⟩
  · exact fun k W W' p q ⟨h0, h1⟩ hc => ⟨fun h => let ⟨g, hg, hx, hq⟩ := h0 h; ⟨g, hg, hx.chg hc (fun h => h) (fun h => h), hq.chg hc (fun h => h)⟩, fun h => (h1 h).chg hc⟩
  · intro k hk W p q hp hq hB ⟨h0, _⟩
    obtain rfl : k = 0 := by simpa using hk
    obtain ⟨g, hg, hx, hqb⟩ := h0 rfl
    refine (append_any q p g _ _ _ _ _ _ W hx hqb rfl rfl).mono ?_
    rintro e w' ⟨he, hx', hc⟩
    refine ⟨he, ⟨fun h => absurd h (by decide), fun _ => ⟨g, _, hx'.blk, hx'.row, hx'.len, by simp, ?_⟩⟩, hc.below _ hB.size (fun k hk => by omega)⟩
    intro j hj
    have : j < 11 := by simpa using hj
    have h11 : j = 0 ∨ j = 1 ∨ j = 2 ∨ j = 3 ∨ j = 4 ∨ j = 5 ∨ j = 6 ∨ j = 7 ∨ j = 8 ∨ j = 9 ∨ j = 10 := by omega
    rcases h11 with rfl | rfl | rfl | rfl | rfl | rfl | rfl | rfl | rfl | rfl | rfl <;> rfl
  · rintro e w' ⟨p, q, he, hp, ⟨_, h1⟩, hB⟩
    exact ⟨p, he, ⟨_, _, h1 rfl, rfl⟩, hB⟩

/-- the iterator behind k of the one sample -/
def JA (I G C : Nat) (k : Nat) (W : World) : Prop := if k = 0 then Rd W I G C [.int .i64 0, .int .u64 0, .int .u8 0, .int .u8 0, .int .u16 1, .int .u16 0, .int .i64 (-9223372036854775808), .float .f64 0, .int .u8 0, .int .u8 0, .int .u64 0, .nilIface] else Rd W I G C [.int .i64 9, .int .u64 0, .int .u8 0, .int .u8 0, .int .u16 1, .int .u16 1, .int .i64 1, .float .f64 4607182418800017408, .int .u8 0, .int .u8 0, .int .u64 0, .nilIface]
theorem JA.chg {I G C k : Nat} {W W' : World} (h : JA I G C k W) {S : Nat → Prop} (hc : Chg S W W') (hi : ¬ S I) (hg : ¬ S G) : JA I G C k W' := by
  unfold JA at h ⊢
  split at h
  · rename_i h0; rw [if_pos h0]; exact h.chg hc hi hg
  · rename_i h0; rw [if_neg h0]; exact h.chg hc hi hg
theorem JA.lt {I G C k : Nat} {W : World} (h : JA I G C k W) : I < W.heap.size ∧ G < W.heap.size := by
  unfold JA at h
  split at h
  · exact ⟨h.blk.lt, by obtain ⟨_, h1, _⟩ := h.src; exact lt_blk h1⟩
  · exact ⟨h.blk.lt, by obtain ⟨_, h1, _⟩ := h.src; exact lt_blk h1⟩
theorem yielded_alive (W W1 : World) (I : Nat) (sv : Value) (hM : Made W W1 I 0 1 oneB sv) :
    Calls Tryz.prog 31 #[.iface 129 (.pointer (some ⟨I, 0, none⟩))] W1 fun e w' => ∃ u, e = .returned (.tuple #[u, .bool true]) ∧ w'.ownsRow W1.heap.size 41 2 u oneS.length (flat .i64 .u64 oneS) ∧ Chg (fun q => q = I) W1 w' := by
  obtain ⟨hb, hs, ⟨g, c, ho, hv⟩, hlow, hB⟩ := hM
  obtain ⟨hlen, ⟨e0, _⟩ | ⟨G, cap, cur, e0, hG1, hG2, hG3, hG4, hG5, hG6⟩⟩ := ho
  · cases e0
  cases e0
  have hc : ¬ c = 2 := by simp at hG3; omega
  rw [if_neg hc] at hv
  subst hv
  have hRd : Rd W1 I g (c - 2) [.int .i64 0, .int .u64 0, .int .u8 0, .int .u8 0, .int .u16 1, .int .u16 0, .int .i64 (-9223372036854775808), .float .f64 0, .int .u8 0, .int .u8 0, .int .u64 0, .nilIface] := by
    refine ⟨hb, cur, hG2, fun j hj => ?_⟩
    have : (cur.toList.take 11)[j]? = (Lib.byteCells (0 :: 1 :: oneB))[j]? := by rw [show (11 : Nat) = (oneB.length + 2) * 1 from rfl, hG6]
    rw [List.getElem?_take_of_lt hj, Array.getElem?_toList] at this
    rw [this]
    have h11 : j = 0 ∨ j = 1 ∨ j = 2 ∨ j = 3 ∨ j = 4 ∨ j = 5 ∨ j = 6 ∨ j = 7 ∨ j = 8 ∨ j = 9 ∨ j = 10 := by omega
    rcases h11 with rfl | rfl | rfl | rfl | rfl | rfl | rfl | rfl | rfl | rfl | rfl <;> rfl
  have hC : 9 ≤ c - 2 := by simp at hG3; omega
  have hlt := hb.lt
  have hgt := lt_blk hG2
  refine yielded_of I oneS (JA I g (c - 2)) W1 hlt (by simp) (by simp) (by unfold JA; rw [if_pos rfl]; exact hRd) (fun k W2 W3 hJ hz hB3 => hJ.chg (Chg.ofBelow hB3) (by omega) (by omega)) ?_ ?_
  · intro k hk W2 hz hJ
    obtain rfl : k = 0 := by simpa using hk
    unfold JA at hJ
    rw [if_pos rfl] at hJ
    refine (next1_any I g (c - 2) _ _ _ _ _ _ W2 hC hJ).mono ?_
    rintro e w' ⟨he, hR, hc⟩
    refine ⟨he, ?_, hR.blk.cell 7, hR.blk.cell 8, hc⟩
    unfold JA
    rw [if_neg (by decide)]
    exact hR
  · intro W2 hz hJ
    unfold JA at hJ
    rw [if_neg (by decide)] at hJ
    refine (nextEnd_any I 1 W2 (hJ.blk.cell 5) (hJ.blk.cell 6) (hJ.blk.cell 12)).mono ?_
    rintro e w' ⟨he, q, rfl⟩
    exact ⟨he, hJ.blk.cell 12, (Chg.refl _ _).drewN q⟩
theorem samp_eq (w : World) : (binOp .eql 41 (.agg #[.int .i64 1, .int .u64 4607182418800017408]) (.agg #[.int .i64 1, .int .u64 4607182418800017408])).run Tryz.prog w = .ok (.bool true) w := by kernel_rfl
set_option maxRecDepth 100000 in
set_option maxHeartbeats 4000000 in
theorem alive_any (w : World) : Calls Tryz.prog 12 #[] w fun e w' => e = .returned (.bool true) ∧ Below w.heap.size w w' := by
  have hse := samp_eq
  obtain ⟨W, hWe, hb0, hP, hB⟩ : ∃ W, W = (w.alloc (.cells #[.int .i64 1, .int .u64 4607182418800017408] 41)).alloc (.cells #[.slice (some ⟨w.heap.size, 0, none⟩) 1 1] 24) ∧ W.cell? ⟨w.heap.size + 1, 0, none⟩ = some (.slice (some ⟨w.heap.size, 0, none⟩) 1 1) ∧ Pairs W W.heap.size .i64 .u64 (.slice (some ⟨w.heap.size, 0, none⟩) 1 1) oneS ∧ Below w.heap.size w W := by
    have h1 := (Blk.new w [.int .i64 1, .int .u64 4607182418800017408] 41).alloc (.cells #[.slice (some ⟨w.heap.size, 0, none⟩) 1 1] 24)
    refine ⟨_, rfl, by simp, ⟨_, 1, rfl, Nat.le_refl _, by decide, .inr ⟨w.heap.size, 0, rfl, h1.lt, Nat.le_refl _, fun i hi => ?_⟩⟩, (below_new w _).alloc (by simp) _⟩
    have : i = 0 ∨ i = 1 := by simp at hi; omega
    rcases this with rfl | rfl
    · exact h1.cell 0
    · exact h1.cell 1
  have HW := Lib.hid hWe.symm
  have hx := xorBytes_of (.slice (some ⟨w.heap.size + 1, 0, none⟩) 1 1) 0 1 (fun _ l => l = 0 :: 1 :: oneB) W ⟨_, _, _, rfl⟩ (xor_alive _ _ W hb0 hP) (fun _ _ _ h => h)
  rw [show ((Lib.beNat [0, 1] : Nat) : Int) = 1 from rfl] at hx
  have hs := fun (v : Value) (W1 : World) (hv : Bytes W1 v (0 :: 1 :: oneB)) => xorSamples_of v 0 1 oneB oneS W1 hv (by simp) (fun W2 W3 I sv _ hM => yielded_alive W2 W3 I sv hM)
  clear hWe
  go_enter Tryz.func12, Tryz.ntmps12
  go_wp2_with fail
  rw [HW.out]
  go_wp2_with (first
    | (go_at_call 13; refine hx.mono ?_; rintro e w1 ⟨b, l, rfl, hb, hl, hB1⟩; rw [hl] at hb; clear hl)
    | (go_at_call 14; refine (hs _ _ hb).mono ?_; rintro e w2 ⟨u, rfl, hu, hB2⟩; obtain ⟨ua, uc, rfl, _, _⟩ := hu.form; obtain ⟨q, o, rfl, _, _, hcu⟩ := hu.at_ (by simp); have d := hcu 0 (by simp); have d0 : w2.cell? ⟨q, o, none⟩ = some (.int .i64 1) := d.1; have d1 : w2.cell? ⟨q, o + 1, none⟩ = some (.int .u64 4607182418800017408) := d.2; clear hcu d hu)
    | fail)
  go_ret
  exact ⟨rfl, bnx (bnx hB hB1) hB2⟩
end Go.Proofs.YthkdjjejcbndnaaGreatDoor
