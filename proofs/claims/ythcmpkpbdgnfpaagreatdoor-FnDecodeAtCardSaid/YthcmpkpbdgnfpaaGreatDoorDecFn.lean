/-
  The closure of impl.DecodeAt.
-/
import Derived.Test.YthcmpkpbdgnfpaaGreatDoorDecAt
import Derived.Test.YthcmpkpbdgnfpaaGreatDoorSafe2
namespace Go.Proofs.YthcmpkpbdgnfpaaGreatDoor
set_option linter.unusedSimpArgs false
set_option linter.unusedVariables false
open Go.RowKit

theorem Errs2.up {w w' : World} {a b : Addr} (h : Errs2 w a b) (hb : Below w.heap.size w w') : Errs2 w' a b := by
  obtain ⟨h1, h2, h3, ⟨c, t, h4⟩, c', t', h5⟩ := h
  exact ⟨(hb.cell (p := ⟨EG, 0, none⟩) (cell_lt h1)).trans h1, (hb.cell (p := ⟨EC, 0, none⟩) (cell_lt h2)).trans h2, h3, ⟨c, t, (hb.block _ (lt_blk h4)).trans h4⟩, c', t', (hb.block _ (lt_blk h5)).trans h5⟩
theorem BB.set_other2 {w : World} {B q : Nat} {v : Value} {cs : List Value} {l : List UInt8} {t : TypeId} (h : BB w B v l) (k : Blk w q cs t) (hy : ∀ u ∈ cs, ∀ z, u ≠ .int .u8 z) (j : Nat) (u : Value) : BB (w.setCell ⟨q, j, none⟩ u) B v l := by
  obtain ⟨a, c, h1, h2, h3, h4⟩ := h
  refine ⟨a, c, h1, h2, h3, ?_⟩
  rcases h4 with h4 | ⟨b, o, h4, h5, h6, h7⟩
  · exact .inl h4
  · refine .inr ⟨b, o, h4, h5, by rw [size_set]; exact h6, fun i hi => ?_⟩
    have hne : ¬ b = q := by
      rintro rfl
      have h8 := h7 i hi
      rw [k.cell] at h8
      exact hy _ (List.mem_of_getElem? h8) _ rfl
    exact cell_chg (chg_set w q j u) (h7 i hi) hne
theorem et_info : (Tryz.prog.info? ET).map (·.comparable) = some true := by kernel_rfl
theorem es_info : (Tryz.prog.info? 136).map (fun i => decide (i.size ≠ 0)) = some true := by kernel_rfl
theorem errs_same (p : Addr) (W : World) : (binOp .eql 57 (.iface ET (.pointer (some p))) (.iface ET (.pointer (some p)))).run Tryz.prog W = .ok (.bool true) W := by
  have h1 := et_info
  have h2 := es_info
  cases hi : Tryz.prog.info? ET with
  | none => rw [hi] at h1; cases h1
  | some i =>
    cases hj : Tryz.prog.info? 136 with
    | none => rw [hj] at h2; cases h2
    | some j =>
      rw [hi] at h1
      rw [hj] at h2
      simp at h1 h2
      exact run_eql_iface_ptr_same W p Tryz.underlying57 Tryz.underlying134 hi h1 hj
theorem errs_other (p q : Addr) (W : World) (hne : p ≠ q) (hp : ∃ c t, W.heap[p.block]? = some (.cells c t (0, 0))) (hq : ∃ c t, W.heap[q.block]? = some (.cells c t (0, 0))) : (binOp .eql 57 (.iface ET (.pointer (some p))) (.iface ET (.pointer (some q)))).run Tryz.prog W = .ok (.bool false) W := by
  have h1 := et_info
  have h2 := es_info
  obtain ⟨c, t, hp⟩ := hp
  obtain ⟨c', t', hq⟩ := hq
  cases hi : Tryz.prog.info? ET with
  | none => rw [hi] at h1; cases h1
  | some i =>
    cases hj : Tryz.prog.info? 136 with
    | none => rw [hj] at h2; cases h2
    | some j =>
      rw [hi] at h1
      rw [hj] at h2
      simp at h1 h2
      exact run_eql_iface_ptr_other W Tryz.underlying57 Tryz.underlying134 hi h1 hj h2 hne hp hq
theorem copy_bytes2 (w : World) (v : Value) (l : List UInt8) (h : Bytes w v l) (hl : l.length ≤ 2147483647) :
    ∃ v' w', (Builtin.append_ #[22, 22] 22 #[.slice (some ⟨w.heap.size, 0, none⟩) 0 0, v]).run Tryz.prog (w.alloc (.cells #[] 5)) = .ok v' w' ∧ w'.ownsRow w.heap.size 5 1 v' l.length (Lib.byteCells l) ∧ Below w.heap.size w w' ∧ ∃ g m c, v' = .slice (some ⟨g, 0, none⟩) m c := by
  obtain ⟨v', w', h1, h2, h3, g, c, h4⟩ := copy_bytes w v l h hl
  exact ⟨v', w', h1, h2, h3, g, _, c, h4⟩

set_option maxRecDepth 100000 in
set_option maxHeartbeats 2000000 in
theorem decFn_size (va : Option Addr) (vn vc t : Nat) (ea eb : Addr) (q0 q1 q2 q3 q4 : Nat) (w : World) (he : Errs2 w ea eb)
    (hN : ∀ W T, Below w.heap.size w W → Blk W T [.int .u32 2197175160] 103 → Calls Tryz.prog 29 #[.iface ST (.slice va vn vc), .int .i64 t, .pointer (some ⟨T, 0, none⟩)] W fun e w' => e = .returned (.agg #[.slice none 0 0, .iface ET (.pointer (some ea))]) ∧ Below W.heap.size W w')
    (k0 : Blk w q0 [.bool false] 4) (k1 : Blk w q1 [.slice va vn vc] 22) (k2 : Blk w q2 [.int .i64 t] 3) (k3 : Blk w q3 [.slice none 0 0] 22) (k4 : Blk w q4 [.int .i64 3] 3) (h34 : q3 ≠ q4) :
    Calls Tryz.prog 26 #[.pointer (some ⟨q0, 0, none⟩), .pointer (some ⟨q1, 0, none⟩), .pointer (some ⟨q2, 0, none⟩), .pointer (some ⟨q3, 0, none⟩), .pointer (some ⟨q4, 0, none⟩)] w fun e w' => e = .returned (.tuple #[]) ∧ (Blk w' q3 [.slice none 0 0] 22 ∧ Blk w' q4 [.int .i64 1] 3) ∧ Chg (fun k => k = q3 ∨ k = q4) w w' := by
  have p0 := k0.lt
  have p1 := k1.lt
  have p2 := k2.lt
  have p3 := k3.lt
  have p4 := k4.lt
  obtain ⟨W1, hW1, KT, KD, hsz, hb1⟩ : ∃ W, W = (w.alloc (.cells #[.int .u32 2197175160] 103)).alloc (.cells #[.slice none 0 0, .nilIface] DT) ∧ Blk W w.heap.size [.int .u32 2197175160] 103 ∧ Blk W (w.heap.size + 1) [.slice none 0 0, .nilIface] DT ∧ W.heap.size = w.heap.size + 2 ∧ Below w.heap.size w W :=
    ⟨_, rfl, (Blk.new w _ _).alloc _, by have := Blk.new (w.alloc (.cells #[.int .u32 2197175160] 103)) [.slice none 0 0, .nilIface] DT; simpa using this, by simp, (below_new w _).alloc (by simp) _⟩
  have hW := Lib.hid hW1.symm
  have hN1 := hN W1 w.heap.size hb1 KT
  have c0 := (k0.chg (Chg.ofBelow hb1) (by omega)).cell 0
  have c1 := (k1.chg (Chg.ofBelow hb1) (by omega)).cell 0
  have c2 := (k2.chg (Chg.ofBelow hb1) (by omega)).cell 0
  clear hW1
  go_enter Tryz.func26, Tryz.ntmps26
  go_upto_region 2 with (first
    | (go_at_call 27; refine (makeTable_any _).mono ?_; rintro e w' ⟨rfl, rfl⟩)
    | fail)
  rw [hW.out]
  go_upto_region 5 with (first
    | (go_at_call 29; refine hN1.mono ?_; rintro e w3 ⟨rfl, hb3⟩; have K3 := KD.chg (Chg.ofBelow hb3) (by omega); have f0 := K3.free 0; have f1 := K3.free 1; have e0 := K3.cell 0; have e1 := K3.cell 1)
    | fail)
  obtain ⟨m1, d1⟩ := two_set2 K3 (.slice none 0 0) (.iface ET (.pointer (some ea)))
  have hbA : Below w.heap.size w w3 := bnx hb1 hb3
  have hzA := hbA.size
  have hb5 := hbA.trans (d1.below w.heap.size hzA (fun k hk => by omega))
  generalize ((w3.setCell ⟨w.heap.size + 1, 0, none⟩ (.slice none 0 0)).setCell ⟨w.heap.size + 1, 1, none⟩ (.iface ET (.pointer (some ea)))) = W5 at *
  have he5 := he.up hb5
  have s3 := k3.chg (Chg.ofBelow hb5) (by omega)
  have s4 := k4.chg (Chg.ofBelow hb5) (by omega)
  have hz5 := hb5.size
  have hq1 := errs_same ea W5
  have g0 := he5.size
  have g1 := he5.sum
  have z4 := s4.free 0
  have y4 := s4.cell 0
  go_wp2_with (first
    | (go_at_call 24; refine (decErr_any _ _ _ _ m1 (.inr ⟨_, _, rfl⟩)).mono ?_; rintro e w' ⟨rfl, rfl⟩)
    | fail)
  go_end0
  exact ⟨rfl, ⟨s3.chg (chg_set W5 q4 0 _) (by omega), s4.set 0 _⟩, ((Chg.refl _ w).calls hb5).setCell ⟨q4, 0, none⟩ (.inr rfl) _⟩

set_option maxRecDepth 100000 in
set_option maxHeartbeats 2000000 in
theorem decFn_sizeV (va : Option Addr) (vn vc t : Nat) (ea eb : Addr) (q0 q1 q2 q3 q4 : Nat) (w : World) (he : Errs2 w ea eb)
    (hN : ∀ W T, Below w.heap.size w W → Blk W T [.int .u32 2197175160] 103 → Calls Tryz.prog 28 #[.iface ST (.slice va vn vc), .int .i64 t, .pointer (some ⟨T, 0, none⟩)] W fun e w' => e = .returned (.agg #[.slice none 0 0, .iface ET (.pointer (some ea))]) ∧ Below W.heap.size W w')
    (k0 : Blk w q0 [.bool true] 4) (k1 : Blk w q1 [.slice va vn vc] 22) (k2 : Blk w q2 [.int .i64 t] 3) (k3 : Blk w q3 [.slice none 0 0] 22) (k4 : Blk w q4 [.int .i64 3] 3) (h34 : q3 ≠ q4) :
    Calls Tryz.prog 26 #[.pointer (some ⟨q0, 0, none⟩), .pointer (some ⟨q1, 0, none⟩), .pointer (some ⟨q2, 0, none⟩), .pointer (some ⟨q3, 0, none⟩), .pointer (some ⟨q4, 0, none⟩)] w fun e w' => e = .returned (.tuple #[]) ∧ (Blk w' q3 [.slice none 0 0] 22 ∧ Blk w' q4 [.int .i64 1] 3) ∧ Chg (fun k => k = q3 ∨ k = q4) w w' := by
  have p0 := k0.lt
  have p1 := k1.lt
  have p2 := k2.lt
  have p3 := k3.lt
  have p4 := k4.lt
  obtain ⟨W1, hW1, KT, KD, hsz, hb1⟩ : ∃ W, W = (w.alloc (.cells #[.int .u32 2197175160] 103)).alloc (.cells #[.slice none 0 0, .nilIface] DT) ∧ Blk W w.heap.size [.int .u32 2197175160] 103 ∧ Blk W (w.heap.size + 1) [.slice none 0 0, .nilIface] DT ∧ W.heap.size = w.heap.size + 2 ∧ Below w.heap.size w W :=
    ⟨_, rfl, (Blk.new w _ _).alloc _, by have := Blk.new (w.alloc (.cells #[.int .u32 2197175160] 103)) [.slice none 0 0, .nilIface] DT; simpa using this, by simp, (below_new w _).alloc (by simp) _⟩
  have hW := Lib.hid hW1.symm
  have hN1 := hN W1 w.heap.size hb1 KT
  have c0 := (k0.chg (Chg.ofBelow hb1) (by omega)).cell 0
  have c1 := (k1.chg (Chg.ofBelow hb1) (by omega)).cell 0
  have c2 := (k2.chg (Chg.ofBelow hb1) (by omega)).cell 0
  clear hW1
  go_enter Tryz.func26, Tryz.ntmps26
  go_upto_region 2 with (first
    | (go_at_call 27; refine (makeTable_any _).mono ?_; rintro e w' ⟨rfl, rfl⟩)
    | fail)
  rw [hW.out]
  go_upto_region 5 with (first
    | (go_at_call 28; refine hN1.mono ?_; rintro e w3 ⟨rfl, hb3⟩; have K3 := KD.chg (Chg.ofBelow hb3) (by omega); have f0 := K3.free 0; have f1 := K3.free 1; have e0 := K3.cell 0; have e1 := K3.cell 1)
    | fail)
  obtain ⟨m1, d1⟩ := two_set2 K3 (.slice none 0 0) (.iface ET (.pointer (some ea)))
  have hbA : Below w.heap.size w w3 := bnx hb1 hb3
  have hzA := hbA.size
  have hb5 := hbA.trans (d1.below w.heap.size hzA (fun k hk => by omega))
  generalize ((w3.setCell ⟨w.heap.size + 1, 0, none⟩ (.slice none 0 0)).setCell ⟨w.heap.size + 1, 1, none⟩ (.iface ET (.pointer (some ea)))) = W5 at *
  have he5 := he.up hb5
  have s3 := k3.chg (Chg.ofBelow hb5) (by omega)
  have s4 := k4.chg (Chg.ofBelow hb5) (by omega)
  have hz5 := hb5.size
  have hq1 := errs_same ea W5
  have g0 := he5.size
  have g1 := he5.sum
  have z4 := s4.free 0
  have y4 := s4.cell 0
  go_wp2_with (first
    | (go_at_call 24; refine (decErr_any _ _ _ _ m1 (.inr ⟨_, _, rfl⟩)).mono ?_; rintro e w' ⟨rfl, rfl⟩)
    | fail)
  go_end0
  exact ⟨rfl, ⟨s3.chg (chg_set W5 q4 0 _) (by omega), s4.set 0 _⟩, ((Chg.refl _ w).calls hb5).setCell ⟨q4, 0, none⟩ (.inr rfl) _⟩

set_option maxRecDepth 100000 in
set_option maxHeartbeats 2000000 in
theorem decFn_sum (va : Option Addr) (vn vc t : Nat) (ea eb : Addr) (q0 q1 q2 q3 q4 : Nat) (w : World) (he : Errs2 w ea eb)
    (hN : ∀ W T, Below w.heap.size w W → Blk W T [.int .u32 2197175160] 103 → Calls Tryz.prog 29 #[.iface ST (.slice va vn vc), .int .i64 t, .pointer (some ⟨T, 0, none⟩)] W fun e w' => e = .returned (.agg #[.slice none 0 0, .iface ET (.pointer (some eb))]) ∧ Below W.heap.size W w')
    (k0 : Blk w q0 [.bool false] 4) (k1 : Blk w q1 [.slice va vn vc] 22) (k2 : Blk w q2 [.int .i64 t] 3) (k3 : Blk w q3 [.slice none 0 0] 22) (k4 : Blk w q4 [.int .i64 3] 3) (h34 : q3 ≠ q4) :
    Calls Tryz.prog 26 #[.pointer (some ⟨q0, 0, none⟩), .pointer (some ⟨q1, 0, none⟩), .pointer (some ⟨q2, 0, none⟩), .pointer (some ⟨q3, 0, none⟩), .pointer (some ⟨q4, 0, none⟩)] w fun e w' => e = .returned (.tuple #[]) ∧ (Blk w' q3 [.slice none 0 0] 22 ∧ Blk w' q4 [.int .i64 2] 3) ∧ Chg (fun k => k = q3 ∨ k = q4) w w' := by
  have p0 := k0.lt
  have p1 := k1.lt
  have p2 := k2.lt
  have p3 := k3.lt
  have p4 := k4.lt
  obtain ⟨W1, hW1, KT, KD, hsz, hb1⟩ : ∃ W, W = (w.alloc (.cells #[.int .u32 2197175160] 103)).alloc (.cells #[.slice none 0 0, .nilIface] DT) ∧ Blk W w.heap.size [.int .u32 2197175160] 103 ∧ Blk W (w.heap.size + 1) [.slice none 0 0, .nilIface] DT ∧ W.heap.size = w.heap.size + 2 ∧ Below w.heap.size w W :=
    ⟨_, rfl, (Blk.new w _ _).alloc _, by have := Blk.new (w.alloc (.cells #[.int .u32 2197175160] 103)) [.slice none 0 0, .nilIface] DT; simpa using this, by simp, (below_new w _).alloc (by simp) _⟩
  have hW := Lib.hid hW1.symm
  have hN1 := hN W1 w.heap.size hb1 KT
  have c0 := (k0.chg (Chg.ofBelow hb1) (by omega)).cell 0
  have c1 := (k1.chg (Chg.ofBelow hb1) (by omega)).cell 0
  have c2 := (k2.chg (Chg.ofBelow hb1) (by omega)).cell 0
  clear hW1
  go_enter Tryz.func26, Tryz.ntmps26
  go_upto_region 2 with (first
    | (go_at_call 27; refine (makeTable_any _).mono ?_; rintro e w' ⟨rfl, rfl⟩)
    | fail)
  rw [hW.out]
  go_upto_region 5 with (first
    | (go_at_call 29; refine hN1.mono ?_; rintro e w3 ⟨rfl, hb3⟩; have K3 := KD.chg (Chg.ofBelow hb3) (by omega); have f0 := K3.free 0; have f1 := K3.free 1; have e0 := K3.cell 0; have e1 := K3.cell 1)
    | fail)
  obtain ⟨m1, d1⟩ := two_set2 K3 (.slice none 0 0) (.iface ET (.pointer (some eb)))
  have hbA : Below w.heap.size w w3 := bnx hb1 hb3
  have hzA := hbA.size
  have hb5 := hbA.trans (d1.below w.heap.size hzA (fun k hk => by omega))
  generalize ((w3.setCell ⟨w.heap.size + 1, 0, none⟩ (.slice none 0 0)).setCell ⟨w.heap.size + 1, 1, none⟩ (.iface ET (.pointer (some eb)))) = W5 at *
  have he5 := he.up hb5
  have s3 := k3.chg (Chg.ofBelow hb5) (by omega)
  have s4 := k4.chg (Chg.ofBelow hb5) (by omega)
  have hz5 := hb5.size
  have hq1 := errs_other eb ea W5 he5.ne.symm he5.blkB he5.blkA
  have hq2 := errs_same eb W5
  have g0 := he5.size
  have g1 := he5.sum
  have z4 := s4.free 0
  have y4 := s4.cell 0
  go_wp2_with (first
    | (go_at_call 24; refine (decErr_any _ _ _ _ m1 (.inr ⟨_, _, rfl⟩)).mono ?_; rintro e w' ⟨rfl, rfl⟩)
    | fail)
  go_end0
  exact ⟨rfl, ⟨s3.chg (chg_set W5 q4 0 _) (by omega), s4.set 0 _⟩, ((Chg.refl _ w).calls hb5).setCell ⟨q4, 0, none⟩ (.inr rfl) _⟩

set_option maxRecDepth 100000 in
set_option maxHeartbeats 2000000 in
theorem decFn_sumV (va : Option Addr) (vn vc t : Nat) (ea eb : Addr) (q0 q1 q2 q3 q4 : Nat) (w : World) (he : Errs2 w ea eb)
    (hN : ∀ W T, Below w.heap.size w W → Blk W T [.int .u32 2197175160] 103 → Calls Tryz.prog 28 #[.iface ST (.slice va vn vc), .int .i64 t, .pointer (some ⟨T, 0, none⟩)] W fun e w' => e = .returned (.agg #[.slice none 0 0, .iface ET (.pointer (some eb))]) ∧ Below W.heap.size W w')
    (k0 : Blk w q0 [.bool true] 4) (k1 : Blk w q1 [.slice va vn vc] 22) (k2 : Blk w q2 [.int .i64 t] 3) (k3 : Blk w q3 [.slice none 0 0] 22) (k4 : Blk w q4 [.int .i64 3] 3) (h34 : q3 ≠ q4) :
    Calls Tryz.prog 26 #[.pointer (some ⟨q0, 0, none⟩), .pointer (some ⟨q1, 0, none⟩), .pointer (some ⟨q2, 0, none⟩), .pointer (some ⟨q3, 0, none⟩), .pointer (some ⟨q4, 0, none⟩)] w fun e w' => e = .returned (.tuple #[]) ∧ (Blk w' q3 [.slice none 0 0] 22 ∧ Blk w' q4 [.int .i64 2] 3) ∧ Chg (fun k => k = q3 ∨ k = q4) w w' := by
  have p0 := k0.lt
  have p1 := k1.lt
  have p2 := k2.lt
  have p3 := k3.lt
  have p4 := k4.lt
  obtain ⟨W1, hW1, KT, KD, hsz, hb1⟩ : ∃ W, W = (w.alloc (.cells #[.int .u32 2197175160] 103)).alloc (.cells #[.slice none 0 0, .nilIface] DT) ∧ Blk W w.heap.size [.int .u32 2197175160] 103 ∧ Blk W (w.heap.size + 1) [.slice none 0 0, .nilIface] DT ∧ W.heap.size = w.heap.size + 2 ∧ Below w.heap.size w W :=
    ⟨_, rfl, (Blk.new w _ _).alloc _, by have := Blk.new (w.alloc (.cells #[.int .u32 2197175160] 103)) [.slice none 0 0, .nilIface] DT; simpa using this, by simp, (below_new w _).alloc (by simp) _⟩
  have hW := Lib.hid hW1.symm
  have hN1 := hN W1 w.heap.size hb1 KT
  have c0 := (k0.chg (Chg.ofBelow hb1) (by omega)).cell 0
  have c1 := (k1.chg (Chg.ofBelow hb1) (by omega)).cell 0
  have c2 := (k2.chg (Chg.ofBelow hb1) (by omega)).cell 0
  clear hW1
  go_enter Tryz.func26, Tryz.ntmps26
  go_upto_region 2 with (first
    | (go_at_call 27; refine (makeTable_any _).mono ?_; rintro e w' ⟨rfl, rfl⟩)
    | fail)
  rw [hW.out]
  go_upto_region 5 with (first
    | (go_at_call 28; refine hN1.mono ?_; rintro e w3 ⟨rfl, hb3⟩; have K3 := KD.chg (Chg.ofBelow hb3) (by omega); have f0 := K3.free 0; have f1 := K3.free 1; have e0 := K3.cell 0; have e1 := K3.cell 1)
    | fail)
  obtain ⟨m1, d1⟩ := two_set2 K3 (.slice none 0 0) (.iface ET (.pointer (some eb)))
  have hbA : Below w.heap.size w w3 := bnx hb1 hb3
  have hzA := hbA.size
  have hb5 := hbA.trans (d1.below w.heap.size hzA (fun k hk => by omega))
  generalize ((w3.setCell ⟨w.heap.size + 1, 0, none⟩ (.slice none 0 0)).setCell ⟨w.heap.size + 1, 1, none⟩ (.iface ET (.pointer (some eb)))) = W5 at *
  have he5 := he.up hb5
  have s3 := k3.chg (Chg.ofBelow hb5) (by omega)
  have s4 := k4.chg (Chg.ofBelow hb5) (by omega)
  have hz5 := hb5.size
  have hq1 := errs_other eb ea W5 he5.ne.symm he5.blkB he5.blkA
  have hq2 := errs_same eb W5
  have g0 := he5.size
  have g1 := he5.sum
  have z4 := s4.free 0
  have y4 := s4.cell 0
  go_wp2_with (first
    | (go_at_call 24; refine (decErr_any _ _ _ _ m1 (.inr ⟨_, _, rfl⟩)).mono ?_; rintro e w' ⟨rfl, rfl⟩)
    | fail)
  go_end0
  exact ⟨rfl, ⟨s3.chg (chg_set W5 q4 0 _) (by omega), s4.set 0 _⟩, ((Chg.refl _ w).calls hb5).setCell ⟨q4, 0, none⟩ (.inr rfl) _⟩

set_option maxRecDepth 100000 in
set_option maxHeartbeats 2000000 in
theorem decFn_other (va : Option Addr) (vn vc t : Nat) (ea eb : Addr) (q0 q1 q2 q3 q4 : Nat) (w : World) (he : Errs2 w ea eb)
    (hN : ∀ W T, Below w.heap.size w W → Blk W T [.int .u32 2197175160] 103 → Calls Tryz.prog 29 #[.iface ST (.slice va vn vc), .int .i64 t, .pointer (some ⟨T, 0, none⟩)] W fun e w' => ∃ x, e = .returned (.agg #[.slice none 0 0, .iface ET (.pointer (some x))]) ∧ W.heap.size ≤ x.block ∧ (∃ c t, w'.heap[x.block]? = some (.cells c t (0, 0))) ∧ Below W.heap.size W w')
    (k0 : Blk w q0 [.bool false] 4) (k1 : Blk w q1 [.slice va vn vc] 22) (k2 : Blk w q2 [.int .i64 t] 3) (k3 : Blk w q3 [.slice none 0 0] 22) (k4 : Blk w q4 [.int .i64 3] 3) (h34 : q3 ≠ q4) :
    Calls Tryz.prog 26 #[.pointer (some ⟨q0, 0, none⟩), .pointer (some ⟨q1, 0, none⟩), .pointer (some ⟨q2, 0, none⟩), .pointer (some ⟨q3, 0, none⟩), .pointer (some ⟨q4, 0, none⟩)] w fun e w' => e = .returned (.tuple #[]) ∧ (Blk w' q3 [.slice none 0 0] 22 ∧ Blk w' q4 [.int .i64 3] 3) ∧ Chg (fun k => k = q3 ∨ k = q4) w w' := by
  have p0 := k0.lt
  have p1 := k1.lt
  have p2 := k2.lt
  have p3 := k3.lt
  have p4 := k4.lt
  obtain ⟨W1, hW1, KT, KD, hsz, hb1⟩ : ∃ W, W = (w.alloc (.cells #[.int .u32 2197175160] 103)).alloc (.cells #[.slice none 0 0, .nilIface] DT) ∧ Blk W w.heap.size [.int .u32 2197175160] 103 ∧ Blk W (w.heap.size + 1) [.slice none 0 0, .nilIface] DT ∧ W.heap.size = w.heap.size + 2 ∧ Below w.heap.size w W :=
    ⟨_, rfl, (Blk.new w _ _).alloc _, by have := Blk.new (w.alloc (.cells #[.int .u32 2197175160] 103)) [.slice none 0 0, .nilIface] DT; simpa using this, by simp, (below_new w _).alloc (by simp) _⟩
  have hW := Lib.hid hW1.symm
  have hN1 := hN W1 w.heap.size hb1 KT
  have c0 := (k0.chg (Chg.ofBelow hb1) (by omega)).cell 0
  have c1 := (k1.chg (Chg.ofBelow hb1) (by omega)).cell 0
  have c2 := (k2.chg (Chg.ofBelow hb1) (by omega)).cell 0
  clear hW1
  go_enter Tryz.func26, Tryz.ntmps26
  go_upto_region 2 with (first
    | (go_at_call 27; refine (makeTable_any _).mono ?_; rintro e w' ⟨rfl, rfl⟩)
    | fail)
  rw [hW.out]
  go_upto_region 5 with (first
    | (go_at_call 29; refine hN1.mono ?_; rintro e w3 ⟨x, rfl, hxw, hxh, hb3⟩; have K3 := KD.chg (Chg.ofBelow hb3) (by omega); have f0 := K3.free 0; have f1 := K3.free 1; have e0 := K3.cell 0; have e1 := K3.cell 1)
    | fail)
  obtain ⟨m1, d1⟩ := two_set2 K3 (.slice none 0 0) (.iface ET (.pointer (some x)))
  have hbA : Below w.heap.size w w3 := bnx hb1 hb3
  have hzA := hbA.size
  have hb5 := hbA.trans (d1.below w.heap.size hzA (fun k hk => by omega))
  generalize ((w3.setCell ⟨w.heap.size + 1, 0, none⟩ (.slice none 0 0)).setCell ⟨w.heap.size + 1, 1, none⟩ (.iface ET (.pointer (some x)))) = W5 at *
  have he5 := he.up hb5
  have s3 := k3.chg (Chg.ofBelow hb5) (by omega)
  have s4 := k4.chg (Chg.ofBelow hb5) (by omega)
  have hz5 := hb5.size
  have hxa : x ≠ ea := fun h => by obtain ⟨c, t, h4⟩ := he.blkA; have := lt_blk h4; rw [h] at hxw; omega
  have hxb : x ≠ eb := fun h => by obtain ⟨c, t, h4⟩ := he.blkB; have := lt_blk h4; rw [h] at hxw; omega
  have hxh5 : ∃ c t, W5.heap[x.block]? = some (.cells c t (0, 0)) := by obtain ⟨c, t, h4⟩ := hxh; exact ⟨c, t, blk_chg d1 h4 (by omega)⟩
  have hq1 := errs_other x ea W5 hxa hxh5 he5.blkA
  have hq2 := errs_other x eb W5 hxb hxh5 he5.blkB
  have g0 := he5.size
  have g1 := he5.sum
  have z4 := s4.free 0
  have y4 := s4.cell 0
  go_wp2_with (first
    | (go_at_call 24; refine (decErr_any _ _ _ _ m1 (.inr ⟨_, _, rfl⟩)).mono ?_; rintro e w' ⟨rfl, rfl⟩)
    | fail)
  go_end0
  exact ⟨rfl, ⟨s3, s4⟩, (Chg.refl _ w).calls hb5⟩

set_option maxRecDepth 100000 in
set_option maxHeartbeats 2000000 in
theorem decFn_otherV (va : Option Addr) (vn vc t : Nat) (ea eb : Addr) (q0 q1 q2 q3 q4 : Nat) (w : World) (he : Errs2 w ea eb)
    (hN : ∀ W T, Below w.heap.size w W → Blk W T [.int .u32 2197175160] 103 → Calls Tryz.prog 28 #[.iface ST (.slice va vn vc), .int .i64 t, .pointer (some ⟨T, 0, none⟩)] W fun e w' => ∃ x, e = .returned (.agg #[.slice none 0 0, .iface ET (.pointer (some x))]) ∧ W.heap.size ≤ x.block ∧ (∃ c t, w'.heap[x.block]? = some (.cells c t (0, 0))) ∧ Below W.heap.size W w')
    (k0 : Blk w q0 [.bool true] 4) (k1 : Blk w q1 [.slice va vn vc] 22) (k2 : Blk w q2 [.int .i64 t] 3) (k3 : Blk w q3 [.slice none 0 0] 22) (k4 : Blk w q4 [.int .i64 3] 3) (h34 : q3 ≠ q4) :
    Calls Tryz.prog 26 #[.pointer (some ⟨q0, 0, none⟩), .pointer (some ⟨q1, 0, none⟩), .pointer (some ⟨q2, 0, none⟩), .pointer (some ⟨q3, 0, none⟩), .pointer (some ⟨q4, 0, none⟩)] w fun e w' => e = .returned (.tuple #[]) ∧ (Blk w' q3 [.slice none 0 0] 22 ∧ Blk w' q4 [.int .i64 3] 3) ∧ Chg (fun k => k = q3 ∨ k = q4) w w' := by
  have p0 := k0.lt
  have p1 := k1.lt
  have p2 := k2.lt
  have p3 := k3.lt
  have p4 := k4.lt
  obtain ⟨W1, hW1, KT, KD, hsz, hb1⟩ : ∃ W, W = (w.alloc (.cells #[.int .u32 2197175160] 103)).alloc (.cells #[.slice none 0 0, .nilIface] DT) ∧ Blk W w.heap.size [.int .u32 2197175160] 103 ∧ Blk W (w.heap.size + 1) [.slice none 0 0, .nilIface] DT ∧ W.heap.size = w.heap.size + 2 ∧ Below w.heap.size w W :=
    ⟨_, rfl, (Blk.new w _ _).alloc _, by have := Blk.new (w.alloc (.cells #[.int .u32 2197175160] 103)) [.slice none 0 0, .nilIface] DT; simpa using this, by simp, (below_new w _).alloc (by simp) _⟩
  have hW := Lib.hid hW1.symm
  have hN1 := hN W1 w.heap.size hb1 KT
  have c0 := (k0.chg (Chg.ofBelow hb1) (by omega)).cell 0
  have c1 := (k1.chg (Chg.ofBelow hb1) (by omega)).cell 0
  have c2 := (k2.chg (Chg.ofBelow hb1) (by omega)).cell 0
  clear hW1
  go_enter Tryz.func26, Tryz.ntmps26
  go_upto_region 2 with (first
    | (go_at_call 27; refine (makeTable_any _).mono ?_; rintro e w' ⟨rfl, rfl⟩)
    | fail)
  rw [hW.out]
  go_upto_region 5 with (first
    | (go_at_call 28; refine hN1.mono ?_; rintro e w3 ⟨x, rfl, hxw, hxh, hb3⟩; have K3 := KD.chg (Chg.ofBelow hb3) (by omega); have f0 := K3.free 0; have f1 := K3.free 1; have e0 := K3.cell 0; have e1 := K3.cell 1)
    | fail)
  obtain ⟨m1, d1⟩ := two_set2 K3 (.slice none 0 0) (.iface ET (.pointer (some x)))
  have hbA : Below w.heap.size w w3 := bnx hb1 hb3
  have hzA := hbA.size
  have hb5 := hbA.trans (d1.below w.heap.size hzA (fun k hk => by omega))
  generalize ((w3.setCell ⟨w.heap.size + 1, 0, none⟩ (.slice none 0 0)).setCell ⟨w.heap.size + 1, 1, none⟩ (.iface ET (.pointer (some x)))) = W5 at *
  have he5 := he.up hb5
  have s3 := k3.chg (Chg.ofBelow hb5) (by omega)
  have s4 := k4.chg (Chg.ofBelow hb5) (by omega)
  have hz5 := hb5.size
  have hxa : x ≠ ea := fun h => by obtain ⟨c, t, h4⟩ := he.blkA; have := lt_blk h4; rw [h] at hxw; omega
  have hxb : x ≠ eb := fun h => by obtain ⟨c, t, h4⟩ := he.blkB; have := lt_blk h4; rw [h] at hxw; omega
  have hxh5 : ∃ c t, W5.heap[x.block]? = some (.cells c t (0, 0)) := by obtain ⟨c, t, h4⟩ := hxh; exact ⟨c, t, blk_chg d1 h4 (by omega)⟩
  have hq1 := errs_other x ea W5 hxa hxh5 he5.blkA
  have hq2 := errs_other x eb W5 hxb hxh5 he5.blkB
  have g0 := he5.size
  have g1 := he5.sum
  have z4 := s4.free 0
  have y4 := s4.cell 0
  go_wp2_with (first
    | (go_at_call 24; refine (decErr_any _ _ _ _ m1 (.inr ⟨_, _, rfl⟩)).mono ?_; rintro e w' ⟨rfl, rfl⟩)
    | fail)
  go_end0
  exact ⟨rfl, ⟨s3, s4⟩, (Chg.refl _ w).calls hb5⟩

set_option maxRecDepth 100000 in
set_option maxHeartbeats 2000000 in
theorem decFn_fine (va : Option Addr) (vn vc t : Nat) (ea eb : Addr) (L : List UInt8) (hLl : L.length ≤ 2147483647) (q0 q1 q2 q3 q4 : Nat) (w : World) (he : Errs2 w ea eb)
    (hN : ∀ W T, Below w.heap.size w W → Blk W T [.int .u32 2197175160] 103 → Calls Tryz.prog 29 #[.iface ST (.slice va vn vc), .int .i64 t, .pointer (some ⟨T, 0, none⟩)] W fun e w' => ∃ a k c, e = .returned (.agg #[.slice a k c, .nilIface]) ∧ Bytes W (.slice a k c) L ∧ Below W.heap.size W w')
    (k0 : Blk w q0 [.bool false] 4) (k1 : Blk w q1 [.slice va vn vc] 22) (k2 : Blk w q2 [.int .i64 t] 3) (k3 : Blk w q3 [.slice none 0 0] 22) (k4 : Blk w q4 [.int .i64 3] 3) (h34 : q3 ≠ q4) :
    Calls Tryz.prog 26 #[.pointer (some ⟨q0, 0, none⟩), .pointer (some ⟨q1, 0, none⟩), .pointer (some ⟨q2, 0, none⟩), .pointer (some ⟨q3, 0, none⟩), .pointer (some ⟨q4, 0, none⟩)] w fun e w' => e = .returned (.tuple #[]) ∧ (∃ a k c, Blk w' q3 [.slice a k c] 22 ∧ Blk w' q4 [.int .i64 0] 3 ∧ w'.ownsRow w.heap.size 5 1 (.slice a k c) L.length (Lib.byteCells L)) ∧ Chg (fun k => k = q3 ∨ k = q4) w w' := by
  have p0 := k0.lt
  have p1 := k1.lt
  have p2 := k2.lt
  have p3 := k3.lt
  have p4 := k4.lt
  obtain ⟨W1, hW1, KT, KD, hsz, hb1⟩ : ∃ W, W = (w.alloc (.cells #[.int .u32 2197175160] 103)).alloc (.cells #[.slice none 0 0, .nilIface] DT) ∧ Blk W w.heap.size [.int .u32 2197175160] 103 ∧ Blk W (w.heap.size + 1) [.slice none 0 0, .nilIface] DT ∧ W.heap.size = w.heap.size + 2 ∧ Below w.heap.size w W :=
    ⟨_, rfl, (Blk.new w _ _).alloc _, by have := Blk.new (w.alloc (.cells #[.int .u32 2197175160] 103)) [.slice none 0 0, .nilIface] DT; simpa using this, by simp, (below_new w _).alloc (by simp) _⟩
  have hW := Lib.hid hW1.symm
  have hN1 := hN W1 w.heap.size hb1 KT
  have c0 := (k0.chg (Chg.ofBelow hb1) (by omega)).cell 0
  have c1 := (k1.chg (Chg.ofBelow hb1) (by omega)).cell 0
  have c2 := (k2.chg (Chg.ofBelow hb1) (by omega)).cell 0
  clear hW1
  go_enter Tryz.func26, Tryz.ntmps26
  go_upto_region 2 with (first
    | (go_at_call 27; refine (makeTable_any _).mono ?_; rintro e w' ⟨rfl, rfl⟩)
    | fail)
  rw [hW.out]
  go_upto_region 5 with (first
    | (go_at_call 29; refine hN1.mono ?_; rintro e w3 ⟨a, k, c, rfl, hL, hb3⟩; have K3 := KD.chg (Chg.ofBelow hb3) (by omega); have f0 := K3.free 0; have f1 := K3.free 1; have e0 := K3.cell 0; have e1 := K3.cell 1)
    | fail)
  obtain ⟨m1, d1⟩ := two_set2 K3 (.slice a k c) (.nilIface)
  have hbA : Below w.heap.size w w3 := bnx hb1 hb3
  have hzA := hbA.size
  have hb5 := hbA.trans (d1.below w.heap.size hzA (fun k hk => by omega))
  have hL3 : BB w3 w3.heap.size (.slice a k c) L := hL.up hb3
  have hL4 := (hL3.set_other2 K3 (by intro u hu z hz; subst hz; simp at hu) 0 (.slice a k c)).set_other2 (K3.set 0 (.slice a k c)) (by intro u hu z hz; subst hz; simp at hu) 1 (.nilIface)
  have hL5 := Sl.mono hL4 d1.size (Nat.le_refl _)
  generalize ((w3.setCell ⟨w.heap.size + 1, 0, none⟩ (.slice a k c)).setCell ⟨w.heap.size + 1, 1, none⟩ (.nilIface)) = W5 at *
  have he5 := he.up hb5
  have s3 := k3.chg (Chg.ofBelow hb5) (by omega)
  have s4 := k4.chg (Chg.ofBelow hb5) (by omega)
  have hz5 := hb5.size
  obtain ⟨v6, w6, hr6, hB6, hb6, g6, gm6, gc6, rfl⟩ := copy_bytes2 W5 (.slice a k c) L (show Bytes W5 (.slice a k c) L from hL5) hLl
  have HR := Lib.hid hr6
  clear hr6
  have m2 := m1.alloc (.cells #[] 5)
  have u3 := s3.chg (Chg.ofBelow hb6) (by omega)
  have u4 := s4.chg (Chg.ofBelow hb6) (by omega)
  have z3 := u3.free 0
  have z4 := (u4.chg (chg_set w6 q3 0 (.slice (some ⟨g6, 0, none⟩) gm6 gc6)) (by omega)).free 0
  have y3 := u3.cell 0
  have y4 := (u4.chg (chg_set w6 q3 0 (.slice (some ⟨g6, 0, none⟩) gm6 gc6)) (by omega)).cell 0
  go_wp2_with (first
    | (go_at_call 24; refine (decErr_any _ _ _ _ m1 (.inl rfl)).mono ?_; rintro e w' ⟨rfl, rfl⟩)
    | (go_at_call 30; refine (decGet_any _ _ _ _ _ _ m2).mono ?_; rintro e w' ⟨rfl, rfl⟩)
    | (at_builtin; refine list_run 22 22 rfl (.tmp 22) (.tmp 23) rfl rfl rfl rfl HR.out ?_)
    | fail)
  go_end0
  have hcc : Chg (fun k => k = q3 ∨ k = q4) w w6 := (Chg.refl _ w).calls (bnx hb5 hb6)
  refine ⟨rfl, ⟨_, _, _, (u3.set 0 _).chg (chg_set _ q4 0 _) (by omega), (u4.chg (chg_set w6 q3 0 _) (by omega)).set 0 _, ?_⟩, (hcc.setCell ⟨q3, 0, none⟩ (.inl rfl) _).setCell ⟨q4, 0, none⟩ (.inr rfl) _⟩
  exact own_chg (own_chg (own_base hB6 hz5) (chg_set w6 q3 0 _) (fun g h _ => by omega)) (chg_set _ q4 0 _) (fun g h _ => by omega)

set_option maxRecDepth 100000 in
set_option maxHeartbeats 2000000 in
theorem decFn_fineV (va : Option Addr) (vn vc t : Nat) (ea eb : Addr) (L : List UInt8) (hLl : L.length ≤ 2147483647) (q0 q1 q2 q3 q4 : Nat) (w : World) (he : Errs2 w ea eb)
    (hN : ∀ W T, Below w.heap.size w W → Blk W T [.int .u32 2197175160] 103 → Calls Tryz.prog 28 #[.iface ST (.slice va vn vc), .int .i64 t, .pointer (some ⟨T, 0, none⟩)] W fun e w' => ∃ a k c, e = .returned (.agg #[.slice a k c, .nilIface]) ∧ Bytes W (.slice a k c) L ∧ Below W.heap.size W w')
    (k0 : Blk w q0 [.bool true] 4) (k1 : Blk w q1 [.slice va vn vc] 22) (k2 : Blk w q2 [.int .i64 t] 3) (k3 : Blk w q3 [.slice none 0 0] 22) (k4 : Blk w q4 [.int .i64 3] 3) (h34 : q3 ≠ q4) :
    Calls Tryz.prog 26 #[.pointer (some ⟨q0, 0, none⟩), .pointer (some ⟨q1, 0, none⟩), .pointer (some ⟨q2, 0, none⟩), .pointer (some ⟨q3, 0, none⟩), .pointer (some ⟨q4, 0, none⟩)] w fun e w' => e = .returned (.tuple #[]) ∧ (∃ a k c, Blk w' q3 [.slice a k c] 22 ∧ Blk w' q4 [.int .i64 0] 3 ∧ w'.ownsRow w.heap.size 5 1 (.slice a k c) L.length (Lib.byteCells L)) ∧ Chg (fun k => k = q3 ∨ k = q4) w w' := by
  have p0 := k0.lt
  have p1 := k1.lt
  have p2 := k2.lt
  have p3 := k3.lt
  have p4 := k4.lt
  obtain ⟨W1, hW1, KT, KD, hsz, hb1⟩ : ∃ W, W = (w.alloc (.cells #[.int .u32 2197175160] 103)).alloc (.cells #[.slice none 0 0, .nilIface] DT) ∧ Blk W w.heap.size [.int .u32 2197175160] 103 ∧ Blk W (w.heap.size + 1) [.slice none 0 0, .nilIface] DT ∧ W.heap.size = w.heap.size + 2 ∧ Below w.heap.size w W :=
    ⟨_, rfl, (Blk.new w _ _).alloc _, by have := Blk.new (w.alloc (.cells #[.int .u32 2197175160] 103)) [.slice none 0 0, .nilIface] DT; simpa using this, by simp, (below_new w _).alloc (by simp) _⟩
  have hW := Lib.hid hW1.symm
  have hN1 := hN W1 w.heap.size hb1 KT
  have c0 := (k0.chg (Chg.ofBelow hb1) (by omega)).cell 0
  have c1 := (k1.chg (Chg.ofBelow hb1) (by omega)).cell 0
  have c2 := (k2.chg (Chg.ofBelow hb1) (by omega)).cell 0
  clear hW1
  go_enter Tryz.func26, Tryz.ntmps26
  go_upto_region 2 with (first
    | (go_at_call 27; refine (makeTable_any _).mono ?_; rintro e w' ⟨rfl, rfl⟩)
    | fail)
  rw [hW.out]
  go_upto_region 5 with (first
    | (go_at_call 28; refine hN1.mono ?_; rintro e w3 ⟨a, k, c, rfl, hL, hb3⟩; have K3 := KD.chg (Chg.ofBelow hb3) (by omega); have f0 := K3.free 0; have f1 := K3.free 1; have e0 := K3.cell 0; have e1 := K3.cell 1)
    | fail)
  obtain ⟨m1, d1⟩ := two_set2 K3 (.slice a k c) (.nilIface)
  have hbA : Below w.heap.size w w3 := bnx hb1 hb3
  have hzA := hbA.size
  have hb5 := hbA.trans (d1.below w.heap.size hzA (fun k hk => by omega))
  have hL3 : BB w3 w3.heap.size (.slice a k c) L := hL.up hb3
  have hL4 := (hL3.set_other2 K3 (by intro u hu z hz; subst hz; simp at hu) 0 (.slice a k c)).set_other2 (K3.set 0 (.slice a k c)) (by intro u hu z hz; subst hz; simp at hu) 1 (.nilIface)
  have hL5 := Sl.mono hL4 d1.size (Nat.le_refl _)
  generalize ((w3.setCell ⟨w.heap.size + 1, 0, none⟩ (.slice a k c)).setCell ⟨w.heap.size + 1, 1, none⟩ (.nilIface)) = W5 at *
  have he5 := he.up hb5
  have s3 := k3.chg (Chg.ofBelow hb5) (by omega)
  have s4 := k4.chg (Chg.ofBelow hb5) (by omega)
  have hz5 := hb5.size
  obtain ⟨v6, w6, hr6, hB6, hb6, g6, gm6, gc6, rfl⟩ := copy_bytes2 W5 (.slice a k c) L (show Bytes W5 (.slice a k c) L from hL5) hLl
  have HR := Lib.hid hr6
  clear hr6
  have m2 := m1.alloc (.cells #[] 5)
  have u3 := s3.chg (Chg.ofBelow hb6) (by omega)
  have u4 := s4.chg (Chg.ofBelow hb6) (by omega)
  have z3 := u3.free 0
  have z4 := (u4.chg (chg_set w6 q3 0 (.slice (some ⟨g6, 0, none⟩) gm6 gc6)) (by omega)).free 0
  have y3 := u3.cell 0
  have y4 := (u4.chg (chg_set w6 q3 0 (.slice (some ⟨g6, 0, none⟩) gm6 gc6)) (by omega)).cell 0
  go_wp2_with (first
    | (go_at_call 24; refine (decErr_any _ _ _ _ m1 (.inl rfl)).mono ?_; rintro e w' ⟨rfl, rfl⟩)
    | (go_at_call 30; refine (decGet_any _ _ _ _ _ _ m2).mono ?_; rintro e w' ⟨rfl, rfl⟩)
    | (at_builtin; refine list_run 22 22 rfl (.tmp 22) (.tmp 23) rfl rfl rfl rfl HR.out ?_)
    | fail)
  go_end0
  have hcc : Chg (fun k => k = q3 ∨ k = q4) w w6 := (Chg.refl _ w).calls (bnx hb5 hb6)
  refine ⟨rfl, ⟨_, _, _, (u3.set 0 _).chg (chg_set _ q4 0 _) (by omega), (u4.chg (chg_set w6 q3 0 _) (by omega)).set 0 _, ?_⟩, (hcc.setCell ⟨q3, 0, none⟩ (.inl rfl) _).setCell ⟨q4, 0, none⟩ (.inr rfl) _⟩
  exact own_chg (own_chg (own_base hB6 hz5) (chg_set w6 q3 0 _) (fun g h _ => by omega)) (chg_set _ q4 0 _) (fun g h _ => by omega)

end Go.Proofs.YthcmpkpbdgnfpaaGreatDoor
