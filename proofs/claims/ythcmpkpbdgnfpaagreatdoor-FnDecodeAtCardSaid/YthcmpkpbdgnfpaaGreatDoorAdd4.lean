/-
  Intervals.Add: ahead of the first.
-/
import Derived.Test.YthcmpkpbdgnfpaaGreatDoorAdd3
import Derived.Deep.RegionLaw
namespace Go.Proofs.YthcmpkpbdgnfpaaGreatDoor
set_option linter.unusedSimpArgs false
set_option linter.unusedVariables false
open Go.RowKit

set_option maxRecDepth 100000 in
set_option maxHeartbeats 8000000 in
theorem add_front (base cap m k : Nat) (ad : Addr) (a b : Int) (l : List (Int × Int)) (w : World) (h : w.ownsRow base IT 2 (.slice (some ad) l.length cap) l.length (flatI l)) (hbase : base ≤ w.heap.size) (hl0 : m < l.length) (hl : l.length ≤ 1000000)
    (ha : (a = -9223372036854775808 ∧ m = 0) ∨ (-9223372036854775808 < a ∧ cLo l a = m)) (ha1 : a ≤ 9223372036854775807) (hb0 : -9223372036854775808 ≤ b) (hb1 : b < 9223372036854775807)
    (hm1 : ∀ i j, i ≤ j → j < l.length → pLo l a i = true → pLo l a j = true) (hm2 : ∀ i j, i ≤ j → j < l.length - m → pHi l b m i = true → pHi l b m j = true) (hk : cHi l b m = k) (hk0 : k = 0) (hmz : m = 0) :
    Calls Tryz.prog 35 #[.slice (some ad) l.length cap, .agg #[.int .i64 a, .int .i64 b]] w fun e w' => ∃ v', e = .returned v' ∧ w'.ownsRow base IT 2 v' (l.length + 1) (flatI ((a, b) :: l)) ∧ Chg (fun k => k = ad.block ∨ w.heap.size ≤ k) w w' := by
  subst hk0
  have HZ := Lib.hid hmz
  clear hmz
  obtain ⟨g, rfl, hS⟩ := AS.start (a := a) (b := b) h
  have hmf : ∀ (fn : Fn) (first cap : Array Value) (w : World), (Instr.makeFunc fn first cap).run Tryz.prog w = .ok (.func fn first cap) w := fun _ _ _ _ => rfl
  have e1 : ((l.length : Int) == 0) = false := by rw [beq_eq_false_iff_ne]; omega
  have e3 : (b != 9223372036854775807) = true := by rw [bne_iff_ne]; omega
  have e4 : ((m : Int) == (l.length : Int)) = false := by rw [beq_eq_false_iff_ne]; omega
  have hwsub : IntKind.i64.wrap ((l.length : Int) - (m : Int)) = (l.length : Int) - (m : Int) := IntWalk.i64_in _ (by omega)
  have hch := (((Chg.refl (fun k => k = g ∨ w.heap.size ≤ k) w).alloc (.cells #[.slice (some ⟨g, 0, none⟩) l.length cap] 76)).alloc (.cells #[.int .i64 a, .int .i64 b] IT)).alloc (.cells #[.int .i64 0] 3)
  have HK := Lib.hid hk
  have HM1 := Lib.hid hm1
  have HM2 := Lib.hid hm2
  clear hk hm1 hm2
  rcases ha with ⟨ha, hm0⟩ | ⟨ha0, hcl⟩
  all_goals first
    | (have hax := ha
       have e2 : (a != -9223372036854775808) = false := by rw [bne_eq_false_iff_eq]; exact ha
       have hS := hS.cast (m' := (m : Int)) (by rw [hm0]; rfl)
       have HM := Lib.hid hm0
       clear hm0 ha hax
       go_enter Tryz.func35, Tryz.ntmps35
       go_wp2_with fail
       generalize ((w.alloc _).alloc _).alloc _ = W2 at *
       generalize hA : w.heap.size = A at *
       have hz2 := hch.size
       have hs := searchHi_int A (A + 1 + 1) (A + 1) g cap m b l W2 (hS.cA.cell 0) (hS.cM.cell 0) (hS.cB.cell 1) hS.ivs (by omega) (by omega) hb0 hb1 HM2.out
       rw [show (l.length : Int) - (m : Int) = (l.length : Int) by have := HM.out; omega] at hs
       refine hs.mono ?_
       clear hs
       rintro e W3 ⟨rfl, hc3⟩
       have hS3 := hS.keepF hc3
       have hch3 := hch.trans (hc3.mono fun k h => h.elim))
    | (have e2 : (a != -9223372036854775808) = true := by rw [bne_iff_ne]; omega
       have HM := Lib.hid hcl
       clear hcl
       go_enter Tryz.func35, Tryz.ntmps35
       go_wp2_with fail
       generalize ((w.alloc _).alloc _).alloc _ = W at *
       generalize hA : w.heap.size = A at *
       have hz2 := hch.size
       refine (searchLo_any A (A + 1) g cap a l W (hS.cA.cell 0) (hS.cB.cell 0) hS.ivs (by omega) ha0 ha1 HM1.out).mono ?_
       rintro e W1 ⟨rfl, hc1⟩
       rw [show (List.range l.length).countP (fun i => !pLo l a i) = m from HM.out]
       have hS1 := hS.keepF hc1
       have c5 := hS1.cM.cell 0
       have z5 := hS1.cM.free 0
       have hS2 := hS1.setM (m : Int)
       have hch2 := (hch.trans (hc1.mono fun k h => h.elim)).setCell ⟨A + 1 + 1, 0, none⟩ (.inr (show A ≤ A + 1 + 1 by omega)) (.int .i64 (m : Int))
       have cAx := hS2.cA.cell 0
       have cBx := hS2.cB.cell 1
       have cMx := hS2.cM.cell 0
       go_wp2_with fail
       refine (searchHi_int A (A + 1 + 1) (A + 1) g cap m b l _ (hS2.cA.cell 0) (hS2.cM.cell 0) (hS2.cB.cell 1) hS2.ivs (by omega) (by omega) hb0 hb1 HM2.out).mono ?_
       rintro e W3 ⟨rfl, hc3⟩
       have hS3 := hS2.keepF hc3
       have hch3 := hch2.trans (hc3.mono fun k h => h.elim)
       clear c5 z5 hS2 hch2 cAx cBx cMx hS1 hc1)
  all_goals
    rw [HK.out]
    have cA := hS3.cA.cell 0
    have cB0 := hS3.cB.cell 0
    have cB1 := hS3.cB.cell 1
    have cM := hS3.cM.cell 0
    have cA2 := (hS3.cA.alloc (.cells #[.int .i64 a, .int .i64 b] 78)).cell 0
    have e5 : ((m : Int) == 0) = true := by have := HZ.out; rw [beq_iff_eq]; omega
    have hz3 := hch3.size
    have hO := own_lit W3 IT 2 [.int .i64 a, .int .i64 b] rfl
    obtain ⟨v', w', hr, ho', hg⟩ := run_iv_append (W3.alloc (.cells #[.int .i64 a, .int .i64 b] IT)) W3.heap.size _ 1 [(a, b)] hO g 0 l.length cap l rfl (fun j u hj => by
      have := hS3.src 0 j u hj
      rw [Nat.zero_mul] at this
      exact cell_chg ((Chg.refl (fun _ => False) W3).alloc _) this (fun h => h)) (by omega) (by simp)
    have HR := Lib.hid hr
    clear hr
    have hcc := (hch3.alloc (.cells #[.int .i64 a, .int .i64 b] IT)).trans ((Chg.ofGrown hg).mono fun k hk => .inr (by simp [Value.ownBlock] at hk; omega))
    go_wp2_with (first | (at_builtin; refine list_run 76 76 rfl (.tmp 45) (.tmp 46) rfl rfl rfl rfl HR.out ?_) | fail)
    go_ret
    subst hA
    refine ⟨_, rfl, ?_, hcc⟩
    rw [Nat.add_comm 1] at ho'
    exact own_base ho' (by omega)

set_option maxRecDepth 100000 in
set_option maxHeartbeats 8000000 in
theorem add_mid (base cap m k : Nat) (ad : Addr) (a b : Int) (l : List (Int × Int)) (w : World) (h : w.ownsRow base IT 2 (.slice (some ad) l.length cap) l.length (flatI l)) (hbase : base ≤ w.heap.size) (hl0 : m < l.length) (hl : l.length ≤ 1000000)
    (ha : (a = -9223372036854775808 ∧ m = 0) ∨ (-9223372036854775808 < a ∧ cLo l a = m)) (ha1 : a ≤ 9223372036854775807) (hb0 : -9223372036854775808 ≤ b) (hb1 : b < 9223372036854775807)
    (hm1 : ∀ i j, i ≤ j → j < l.length → pLo l a i = true → pLo l a j = true) (hm2 : ∀ i j, i ≤ j → j < l.length - m → pHi l b m i = true → pHi l b m j = true) (hk : cHi l b m = k) (hk0 : k = 0) (hmz : 0 < m) :
    Calls Tryz.prog 35 #[.slice (some ad) l.length cap, .agg #[.int .i64 a, .int .i64 b]] w fun e w' => ∃ v', e = .returned v' ∧ w'.ownsRow base IT 2 v' (l.length + 1) (flatI (l.take m ++ ([(a, b)] ++ l.drop m))) ∧ Chg (fun k => k = ad.block ∨ w.heap.size ≤ k) w w' := by
  subst hk0
  obtain ⟨g, rfl, hS⟩ := AS.start (a := a) (b := b) h
  have hmf : ∀ (fn : Fn) (first cap : Array Value) (w : World), (Instr.makeFunc fn first cap).run Tryz.prog w = .ok (.func fn first cap) w := fun _ _ _ _ => rfl
  have e1 : ((l.length : Int) == 0) = false := by rw [beq_eq_false_iff_ne]; omega
  have e3 : (b != 9223372036854775807) = true := by rw [bne_iff_ne]; omega
  have e4 : ((m : Int) == (l.length : Int)) = false := by rw [beq_eq_false_iff_ne]; omega
  have hwsub : IntKind.i64.wrap ((l.length : Int) - (m : Int)) = (l.length : Int) - (m : Int) := IntWalk.i64_in _ (by omega)
  have hch := (((Chg.refl (fun k => k = g ∨ w.heap.size ≤ k) w).alloc (.cells #[.slice (some ⟨g, 0, none⟩) l.length cap] 76)).alloc (.cells #[.int .i64 a, .int .i64 b] IT)).alloc (.cells #[.int .i64 0] 3)
  have HK := Lib.hid hk
  have HM1 := Lib.hid hm1
  have HM2 := Lib.hid hm2
  clear hk hm1 hm2
  rcases ha with ⟨ha, hm0⟩ | ⟨ha0, hcl⟩
  all_goals first
    | (have hax := ha
       have e2 : (a != -9223372036854775808) = false := by rw [bne_eq_false_iff_eq]; exact ha
       have hS := hS.cast (m' := (m : Int)) (by rw [hm0]; rfl)
       have HM := Lib.hid hm0
       clear hm0 ha hax
       go_enter Tryz.func35, Tryz.ntmps35
       go_wp2_with fail
       generalize ((w.alloc _).alloc _).alloc _ = W2 at *
       generalize hA : w.heap.size = A at *
       have hz2 := hch.size
       have hs := searchHi_int A (A + 1 + 1) (A + 1) g cap m b l W2 (hS.cA.cell 0) (hS.cM.cell 0) (hS.cB.cell 1) hS.ivs (by omega) (by omega) hb0 hb1 HM2.out
       rw [show (l.length : Int) - (m : Int) = (l.length : Int) by have := HM.out; omega] at hs
       refine hs.mono ?_
       clear hs
       rintro e W3 ⟨rfl, hc3⟩
       have hS3 := hS.keepF hc3
       have hch3 := hch.trans (hc3.mono fun k h => h.elim))
    | (have e2 : (a != -9223372036854775808) = true := by rw [bne_iff_ne]; omega
       have HM := Lib.hid hcl
       clear hcl
       go_enter Tryz.func35, Tryz.ntmps35
       go_wp2_with fail
       generalize ((w.alloc _).alloc _).alloc _ = W at *
       generalize hA : w.heap.size = A at *
       have hz2 := hch.size
       refine (searchLo_any A (A + 1) g cap a l W (hS.cA.cell 0) (hS.cB.cell 0) hS.ivs (by omega) ha0 ha1 HM1.out).mono ?_
       rintro e W1 ⟨rfl, hc1⟩
       rw [show (List.range l.length).countP (fun i => !pLo l a i) = m from HM.out]
       have hS1 := hS.keepF hc1
       have c5 := hS1.cM.cell 0
       have z5 := hS1.cM.free 0
       have hS2 := hS1.setM (m : Int)
       have hch2 := (hch.trans (hc1.mono fun k h => h.elim)).setCell ⟨A + 1 + 1, 0, none⟩ (.inr (show A ≤ A + 1 + 1 by omega)) (.int .i64 (m : Int))
       have cAx := hS2.cA.cell 0
       have cBx := hS2.cB.cell 1
       have cMx := hS2.cM.cell 0
       go_wp2_with fail
       refine (searchHi_int A (A + 1 + 1) (A + 1) g cap m b l _ (hS2.cA.cell 0) (hS2.cM.cell 0) (hS2.cB.cell 1) hS2.ivs (by omega) (by omega) hb0 hb1 HM2.out).mono ?_
       rintro e W3 ⟨rfl, hc3⟩
       have hS3 := hS2.keepF hc3
       have hch3 := hch2.trans (hc3.mono fun k h => h.elim)
       clear c5 z5 hS2 hch2 cAx cBx cMx hS1 hc1)
  all_goals
    rw [HK.out]
    have e5 : ((m : Int) == 0) = false := by rw [beq_eq_false_iff_ne]; omega
    have hz3 := hch3.size
    have hO := own_lit W3 IT 2 [.int .i64 a, .int .i64 b] rfl
    have hlc := hS3.lc
    have hcm := hS3.cm
    have hlm : (l.drop m).length = l.length - m := List.length_drop
    have hgl : g < A := hS3.o2
    have hAW : A + 1 + 1 < W3.heap.size := hS3.cM.lt
    obtain ⟨x, w1, hr1, ho1, hg1⟩ := run_iv_append (W3.alloc (.cells #[.int .i64 a, .int .i64 b] 78)).drew W3.heap.size _ 1 [(a, b)] (own_drew hO) g (m * 2) (l.length - m) (cap - m) (l.drop m) hlm (fun j u hj => cell_chg (((Chg.refl (fun _ => False) W3).alloc _).drew) (hS3.src m j u hj) (fun h => h)) (by omega) (by simp)
    obtain ⟨xg, xc, rfl, hxg⟩ := own_some ho1 (by omega)
    have hxs := own_src ho1
    have hcx0 : Chg (fun k => W3.heap.size ≤ k) W3 (W3.alloc (.cells #[.int .i64 a, .int .i64 b] 78)).drew := ((Chg.refl (fun k => W3.heap.size ≤ k) W3).alloc _).drew
    have hcx1 : Chg (fun k => W3.heap.size ≤ k) W3 w1 := hcx0.grown hg1 (fun q hq => by simp [Value.ownBlock] at hq; omega)
    have hS4 := hS3.keep hcx1 (by omega) (by omega) (by omega) (by omega)
    have hz4 := hcx1.size
    have hP := own_prefix hS4.own (by simp) (Nat.le_of_lt hl0)
    rw [flatI_take] at hP
    obtain ⟨v', w2, hr2, ho2, hg2⟩ := run_iv_append w1 base _ m (l.take m) hP xg 0 (1 + (l.length - m)) xc ([(a, b)] ++ l.drop m) (by simp; omega) hxs (by omega) (by omega)
    have hcx2 : Chg (fun k => k = g) w1 w2 := (Chg.ofGrown hg2).mono fun k hk => by simp [Value.ownBlock] at hk; exact hk
    have S0 := as_cells hS3
    have S1 := as_cells (hS3.keep hcx0 (by omega) (by omega) (by omega) (by omega))
    have S2 := as_cells hS4
    have S3 := as_cells_but hS4 hcx2 (by omega) (by omega) (by omega)
    have T0 : W3.drew.cell? ⟨A, 0, none⟩ = some (.slice (some ⟨g, 0, none⟩) l.length cap) ∧ W3.drew.cell? ⟨A + 1, 0, none⟩ = some (.int .i64 a) ∧ W3.drew.cell? ⟨A + 1, 1, none⟩ = some (.int .i64 b) ∧ W3.drew.cell? ⟨A + 1 + 1, 0, none⟩ = some (.int .i64 (m : Int)) := S0
    have n0 : (0 : Int) ≤ (m : Int) := by omega
    have n1 : (m : Int) ≤ (cap : Int) := by omega
    have n2 : (m : Int) ≤ (l.length : Int) := by omega
    have n3 : ¬ cap = m := by omega
    have n4 : ¬ (m : Int) = (cap : Int) := by omega
    have HR1 := Lib.hid hr1
    have HR2 := Lib.hid hr2
    have hcc := hch3.trans ((hcx1.mono fun k hk => .inr (by omega)).trans (hcx2.mono fun k hk => .inl hk))
    have cMx := S0.2.2.2
    clear hr1 hr2 hxs hlm hcx0 hcx1 hcx2 hg1 hg2 hO hP hS4 ho1
    go_wp2_with fail
    go_region_held3 (fun w' => w'.cell? ⟨A, 0, none⟩ = some (.slice (some ⟨g, 0, none⟩) l.length cap) ∧ w'.cell? ⟨A + 1, 0, none⟩ = some (.int .i64 a) ∧ w'.cell? ⟨A + 1, 1, none⟩ = some (.int .i64 b) ∧ w'.cell? ⟨A + 1 + 1, 0, none⟩ = some (.int .i64 (m : Int))) (first | (with_reducible assumption) | fail)
      (first
        | (refine step_run 76 76 rfl (.tmp 52) (.tmp 55) rfl rfl rfl rfl HR1.out ?_)
        | (refine step_run 76 76 rfl (.tmp 50) (.tmp 56) rfl rfl rfl rfl HR2.out ?_)
        | fail)
    go_wp2_with fail
    go_ret
    subst hA
    refine ⟨_, rfl, ?_, hcc⟩
    rw [show m + (1 + (l.length - m)) = l.length + 1 by omega] at ho2
    exact ho2
end Go.Proofs.YthcmpkpbdgnfpaaGreatDoor
