/-
  The postings of a list, and of one list without another one.
-/
import Derived.Test.YtkbkggamfkadnaaGreatDoorRemoved
namespace Go.Proofs.YtkbkggamfkadnaaGreatDoor
set_option linter.unusedSimpArgs false
set_option linter.unusedVariables false
open Go.RowKit

theorem infoPost : (Tryz.prog.info? 88).map (fun i => (i.zero, i.size, i.bytes)) = some (some .nilIface, 1, 16) := by kernel_rfl

theorem empty_any (w : World) : Calls Tryz.prog 89 #[] w fun e w' => e = .returned (.iface 145 (.agg #[.nilIface])) ∧ w = w' := by
  go_enter Tryz.func89, Tryz.ntmps89
  go_wp2_with fail
  go_ret
  exact ⟨rfl, rfl⟩
theorem newRemoved_any (F D : Nat) (w : World) : Calls Tryz.prog 106 #[.iface 142 (.pointer (some ⟨F, 0, none⟩)), .iface 142 (.pointer (some ⟨D, 0, none⟩))] w fun e w' => e = .returned (.pointer (some ⟨w.heap.size, 0, none⟩)) ∧ w' = w.alloc (.cells (rpCells F D 0 false false false).toArray 167) := by
  go_enter Tryz.func106, Tryz.ntmps106
  go_wp2_with fail
  go_ret
  exact ⟨rfl, rfl⟩
set_option maxRecDepth 100000 in
theorem without_any (F D : Nat) (w : World) : Calls Tryz.prog 93 #[.iface 142 (.pointer (some ⟨F, 0, none⟩)), .iface 142 (.pointer (some ⟨D, 0, none⟩))] w fun e w' => e = .returned (.iface 152 (.pointer (some ⟨w.heap.size, 0, none⟩))) ∧ w' = w.alloc (.cells (rpCells F D 0 false false false).toArray 167) := by
  have heq : ∀ (g : Nat) (w : World), (binOp .eql 88 (.iface 142 (.pointer (some ⟨g, 0, none⟩))) (.iface 145 (.agg #[.nilIface]))).run Tryz.prog w = .ok (.bool false) w := fun g w => by kernel_rfl
  go_enter Tryz.func93, Tryz.ntmps93
  go_wp2_with (first
    | (go_at_call 89; refine (empty_any _).mono ?_; rintro e w' ⟨rfl, rfl⟩)
    | (go_at_call 106; refine (newRemoved_any _ _ _).mono ?_; rintro e w' ⟨rfl, rfl⟩)
    | fail)
  go_ret
  exact ⟨rfl, rfl⟩

theorem LP.made {w w1 : World} {l : List Int} {a : Option Addr} {c : Nat} (h : w1.ownsRow w.heap.size 140 1 (.slice a l.length c) l.length (l.map (Value.int .u64))) (hb : w.heap.size ≤ w1.heap.size) :
    LP w1.heap.size w.heap.size (w1.heap.size + 1) (w1.alloc (.cells #[.slice a l.length c, .int .u64 0] 158)) l 0 := by
  have hI := Ints.own (l := l) h
  obtain ⟨a', c', e, h1, h2⟩ := hI.form
  injection e with ea _ ec
  subst ea ec
  refine ⟨a, l.length, c, heap_alloc_new w1 _, rfl, h1, h2, hb, by omega, ?_⟩
  by_cases hl : l = []
  · exact .inl hl
  · obtain ⟨b, o, rfl, h3, h4, h5⟩ := hI.at_ (List.length_pos_iff.2 hl)
    refine .inr ⟨b, o, rfl, (h.lt b rfl).1, by omega, by omega, fun i hi => ?_⟩
    exact ((below_new w1 _).cell (p := ⟨b, o + i, none⟩) h3).trans (h5 i hi)

set_option maxRecDepth 100000 in
set_option maxHeartbeats 4000000 in
theorem setList_any (lv : Value) (l : List Int) (w : World) (h : Ints w w.heap.size .u64 lv l) (hl : l.length ≤ 2147483646) :
    Calls Tryz.prog 54 #[.agg #[.int .i64 0, lv, .slice none 0 0]] w fun e w' => ∃ g, e = .returned (.iface 142 (.pointer (some ⟨g, 0, none⟩))) ∧ LP g w.heap.size w'.heap.size w' l 0 ∧ Below w.heap.size w w' := by
  obtain ⟨ao, cap, rfl, h1, h2⟩ := h.form
  have hb0 := below_new w (.cells #[.int .i64 0, .slice ao l.length cap, .slice none 0 0] 45)
  have hI := h.up hb0
  go_enter Tryz.func54, Tryz.ntmps54
  go_wp2_with fail
  refine wp_loop_rounds 1 ?_
  rw [rounds_succ]
  go_wp2_with (first
    | (go_at_call 88; refine (refs_any _ l _ hI hl).mono ?_; rintro e w1 ⟨x, rfl, ho, hb1⟩; obtain ⟨xa, xc, rfl⟩ := own_form ho; have hB1 := bnx hb0 hb1)
    | (go_at_call 87; refine (newListP_any _ _ _ _).mono ?_; rintro e w2 ⟨rfl, rfl⟩)
    | fail)
  go_ret
  have hsz := hB1.size
  have hm := LP.made (own_base ho hb0.size) hsz
  refine ⟨_, rfl, ?_, hB1.alloc hsz _⟩
  simpa using hm

theorem LP.mono {g B0 B B0' B' : Nat} {w : World} {r : List Int} {c : Int} (h : LP g B0 B w r c) (h0 : B0' ≤ B0) (h1 : B ≤ B') : LP g B0' B' w r c := by
  obtain ⟨a, n, k, a1, a2, a3, a4, a5, a6, a7⟩ := h
  refine ⟨a, n, k, a1, a2, a3, a4, by omega, by omega, ?_⟩
  rcases a7 with a7 | ⟨b, o, b1, b2, b3, b4, b5⟩
  · exact .inl a7
  · exact .inr ⟨b, o, b1, by omega, by omega, b4, b5⟩
theorem onei (T : TypeId) (v : Value) : ∀ u ∈ [Value.iface T v], u.oneCell' = true := by intro u hu; simp at hu; subst hu; rfl

set_option maxRecDepth 100000 in
set_option maxHeartbeats 8000000 in
theorem setWithout_any (l1 l2 : Value) (q : Nat) (w : World) (h1 : Ints w w.heap.size .u64 l1 [1, 2]) (h2 : Ints w w.heap.size .u64 l2 [2]) (hq : Blk w q [.int .i64 0, l1, .slice none 0 0, .int .i64 0, l2, .slice none 0 0] 45) :
    Calls Tryz.prog 54 #[.agg #[.int .i64 4, .slice none 0 0, .slice (some ⟨q, 0, none⟩) 2 2]] w fun e w' => ∃ R F D M1 M2, e = .returned (.iface 152 (.pointer (some ⟨R, 0, none⟩))) ∧ RP R F D w.heap.size M1 M2 w'.heap.size w' 0 false false false [1, 2] 0 [2] 0 ∧ Below w.heap.size w w' := by
  obtain ⟨i0, hi, hz0, hz1, hz2⟩ := info_parts infoPost
  obtain ⟨a1, k1, rfl, _, _⟩ := h1.form
  obtain ⟨a2, k2, rfl, _, _⟩ := h2.form
  have hqw := hq.lt
  have hbA := below_new w (.cells #[.int .i64 4, .slice none 0 0, .slice (some ⟨q, 0, none⟩) 2 2] 45)
  have hqA := hq.alloc (.cells #[.int .i64 4, .slice none 0 0, .slice (some ⟨q, 0, none⟩) 2 2] 45)
  have hbxA := Blk.new w [.int .i64 4, .slice none 0 0, .slice (some ⟨q, 0, none⟩) 2 2] 45
  have c0 := hqA.cell 0
  have c1 := hqA.cell 1
  have c2 := hqA.cell 2
  have hI1 := (h1.up hbA).up (below_new _ (.cells #[.int .i64 0, .slice a1 2 k1, .slice none 0 0] 45))
  have hbB := bnx hbA (below_new _ (.cells #[.int .i64 0, .slice a1 2 k1, .slice none 0 0] 45))
  go_enter Tryz.func54, Tryz.ntmps54
  go_wp2_with fail
  refine wp_loop_rounds 3 ?_
  rw [rounds_succ]
  go_wp2_with (first
    | (go_at_call 54; refine (setList_any _ [1, 2] _ hI1 (by decide)).mono ?_; rintro e w1 ⟨F, rfl, hF, hbC⟩; have hb1 := bnx hbB hbC; have hO1 := own_alloc (World.ownsRow_nil w1 w1.heap.size 88 1) (.cells #[.iface 142 (.pointer (some ⟨F, 0, none⟩))] 88))
    | (at_builtin; refine list_app 122 88 i0 _ 1 16 rfl (.tmp 21) (.tmp 24) rfl rfl Tryz.underlying122 hi hz0 hz1 hz2 rfl (by decide) (by decide) w1.heap.size (.slice none 0 0) 0 [] rfl hO1 w1.heap.size rfl [.iface 142 (.pointer (some ⟨F, 0, none⟩))] rfl (heap_alloc_new w1 _) (onei _ _) (by omega) (by simp) ?_; intro x2 w2 ho2 hg2; obtain ⟨xa2, xc2, rfl⟩ := own_form ho2)
    | fail)
  have ho2 : w2.ownsRow w1.heap.size 88 1 (.slice xa2 1 xc2) 1 [.iface 142 (.pointer (some ⟨F, 0, none⟩))] := ho2
  have hs1 : w.heap.size + 2 ≤ w1.heap.size := by have := hbC.size; simp at this; omega
  have hch2 : Chg (fun k => w1.heap.size ≤ k) w1 w2 := ((Chg.refl _ w1).alloc (.cells #[.iface 142 (.pointer (some ⟨F, 0, none⟩))] 88)).grown hg2 (fun k hk => by cases hk)
  have hs2 := hch2.size
  have hb2 : Below w.heap.size w w2 := hb1.trans (hch2.below _ hb1.size (fun k hk => by omega))
  have hF2 := hF.keep hch2 (fun k _ _ => by omega)
  have hbx1 := (hbxA.alloc (.cells #[.int .i64 0, .slice a1 2 k1, .slice none 0 0] 45)).chg (Chg.ofBelow hbC) (by simp; omega)
  have hbx2 := hbx1.chg hch2 (by omega)
  have hq2 := hq.chg (Chg.ofBelow hb2) (by omega)
  have d0 := hq2.cell 3
  have d1 := hq2.cell 4
  have d2 := hq2.cell 5
  have hI2 := (h2.up hb2).up (below_new w2 (.cells #[.int .i64 0, .slice a2 1 k2, .slice none 0 0] 45))
  have hFs : w.heap.size ≤ F ∧ F < w1.heap.size := by have := hF2.lt; simp at this; omega
  clear c0 c1 c2 hqA hbxA hbA hI1 hbB hbC hO1 hg2 hF hbx1
  rw [rounds_succ]
  go_wp2_with (first
    | (go_at_call 54; refine (setList_any _ [2] _ hI2 (by decide)).mono ?_; rintro e w3 ⟨D, rfl, hD, hbD⟩; have hs3 := hbD.size; have hch3 : Chg (fun k => w2.heap.size ≤ k) w2 w3 := ((Chg.refl _ w2).alloc (.cells #[.int .i64 0, .slice a2 1 k2, .slice none 0 0] 45)).trans ((Chg.ofBelow hbD).mono (fun k hk => by simp at hk; omega)); have hO3 := own_alloc (own_chg ho2 hch3 (fun g _ hg h => by have := (ho2.lt g hg).2; omega)) (.cells #[.iface 142 (.pointer (some ⟨D, 0, none⟩))] 88))
    | (at_builtin; refine list_app 122 88 i0 _ 1 16 rfl (.tmp 21) (.tmp 24) rfl rfl Tryz.underlying122 hi hz0 hz1 hz2 rfl (by decide) (by decide) w1.heap.size (.slice xa2 1 xc2) 1 [.iface 142 (.pointer (some ⟨F, 0, none⟩))] rfl hO3 w3.heap.size rfl [.iface 142 (.pointer (some ⟨D, 0, none⟩))] rfl (heap_alloc_new w3 _) (onei _ _) (by omega) (by simp; have := hch3.size; omega) ?_; intro x4 w4 ho4 hg4; obtain ⟨xa4, xc4, rfl⟩ := own_form ho4)
    | fail)
  have ho4 : w4.ownsRow w1.heap.size 88 1 (.slice xa4 2 xc4) 2 [.iface 142 (.pointer (some ⟨F, 0, none⟩)), .iface 142 (.pointer (some ⟨D, 0, none⟩))] := ho4
  simp at hs3
  have hch4 : Chg (fun k => w1.heap.size ≤ k ∧ k < w2.heap.size ∨ w3.heap.size ≤ k) w3 w4 := ((Chg.refl _ w3).alloc (.cells #[.iface 142 (.pointer (some ⟨D, 0, none⟩))] 88)).grown hg4 (fun k hk => .inl ⟨(ho2.lt k hk).1, (ho2.lt k hk).2⟩)
  have hs4 := hch4.size
  have hD4 := hD.keep hch4 (fun k a b => by simp at a; omega)
  have hF4 := (hF2.keep hch3 (fun k _ _ => by omega)).keep hch4 (fun k _ _ => by omega)
  have hbx4 := (hbx2.chg hch3 (by omega)).chg hch4 (by omega)
  have hb4 : Below w.heap.size w w4 := (hb2.trans (hch3.below _ hb2.size (fun k hk => by omega))).trans (hch4.below _ (by omega) (fun k hk => by omega))
  have e0 := hbx4.cell 0
  obtain ⟨sb, so, rfl, hsb, _, hsc⟩ := (Sl.own ho4).at_ (by decide)
  have g0 : w4.cell? ⟨sb, so, none⟩ = some (.iface 142 (.pointer (some ⟨F, 0, none⟩))) := hsc 0 (by decide)
  have g1 : w4.cell? ⟨sb, so + 1, none⟩ = some (.iface 142 (.pointer (some ⟨D, 0, none⟩))) := hsc 1 (by decide)
  clear d0 d1 d2 hq2 hI2 hO3 hg4 hch3 hch2 hch4 hbD hsc hbx2 hF2 hD
  rw [rounds_succ]
  go_wp2_with fail
  have hS : w4.drew.cell? ⟨sb, so, none⟩ = some (.iface 142 (.pointer (some ⟨F, 0, none⟩))) ∧ w4.drew.cell? ⟨sb, so + 1, none⟩ = some (.iface 142 (.pointer (some ⟨D, 0, none⟩))) := ⟨g0, g1⟩
  have hS2 : w4.cell? ⟨sb, so, none⟩ = some (.iface 142 (.pointer (some ⟨F, 0, none⟩))) ∧ w4.cell? ⟨sb, so + 1, none⟩ = some (.iface 142 (.pointer (some ⟨D, 0, none⟩))) := ⟨g0, g1⟩
  clear g0 g1
  go_region_held3 (fun w' => w'.cell? ⟨sb, so, none⟩ = some (.iface 142 (.pointer (some ⟨F, 0, none⟩))) ∧ w'.cell? ⟨sb, so + 1, none⟩ = some (.iface 142 (.pointer (some ⟨D, 0, none⟩)))) (first | (with_reducible assumption) | (with_reducible exact keepB_alloc_drew hS2 _) | fail)
    (first
      | (go_at_call 93; refine (without_any F D _).mono ?_; rintro e w' ⟨rfl, rfl⟩)
      | fail)
  go_wp2_with fail
  go_ret
  have hcR := below_newd w4 (.cells (rpCells F D 0 false false false).toArray 167)
  refine ⟨_, F, D, w2.heap.size + 1, w3.heap.size, rfl, ⟨Blk.new w4 _ _, by omega, by omega, hs4, by simp, ?_, ?_⟩, bnx hb4 hcR⟩
  · exact (hF4.keep (S := fun _ => False) ((Chg.refl _ w4).alloc _).drew (fun _ _ _ h => h)).mono (by simp; omega) (by omega)
  · have := (hD4.keep (S := fun _ => False) ((Chg.refl _ w4).alloc (.cells (rpCells F D 0 false false false).toArray 167)).drew (fun _ _ _ h => h))
    simpa using this
end Go.Proofs.YtkbkggamfkadnaaGreatDoor
