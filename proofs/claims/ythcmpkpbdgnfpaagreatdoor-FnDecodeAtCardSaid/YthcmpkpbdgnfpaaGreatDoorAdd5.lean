/-
  Intervals.Add: joined with others.
-/
import Derived.Test.YthcmpkpbdgnfpaaGreatDoorAdd3
import Derived.StillTailTactics
import Derived.Deep.RegionLaw
namespace Go.Proofs.YthcmpkpbdgnfpaaGreatDoor
set_option linter.unusedSimpArgs false
set_option linter.unusedVariables false
open Go.RowKit

set_option maxRecDepth 100000 in
set_option maxHeartbeats 8000000 in
theorem add_merge (base cap m k : Nat) (ad : Addr) (a b : Int) (l : List (Int × Int)) (w : World) (h : w.ownsRow base IT 2 (.slice (some ad) l.length cap) l.length (flatI l)) (hbase : base ≤ w.heap.size) (hl0 : m < l.length) (hl : l.length ≤ 1000000)
    (ha : (a = -9223372036854775808 ∧ m = 0) ∨ (-9223372036854775808 < a ∧ cLo l a = m)) (ha1 : a ≤ 9223372036854775807) (hb0 : -9223372036854775808 ≤ b) (hb1 : b < 9223372036854775807)
    (hm1 : ∀ i j, i ≤ j → j < l.length → pLo l a i = true → pLo l a j = true) (hm2 : ∀ i j, i ≤ j → j < l.length - m → pHi l b m i = true → pHi l b m j = true) (hk : cHi l b m = k) (hk0 : 0 < k) :
    Calls Tryz.prog 35 #[.slice (some ad) l.length cap, .agg #[.int .i64 a, .int .i64 b]] w fun e w' => ∃ v', e = .returned v' ∧ w'.ownsRow base IT 2 v' (l.length + 1 - k) (flatI (l.take m ++ ([(min a (l.getD m (0, 0)).1, max b (l.getD (m + k - 1) (0, 0)).2)] ++ l.drop (m + k)))) ∧ Chg (fun k => k = ad.block ∨ w.heap.size ≤ k) w w' := by
  obtain ⟨g, rfl, hS⟩ := AS.start (a := a) (b := b) h
  have hmf : ∀ (fn : Fn) (first cap : Array Value) (w : World), (Instr.makeFunc fn first cap).run Tryz.prog w = .ok (.func fn first cap) w := fun _ _ _ _ => rfl
  have e1 : ((l.length : Int) == 0) = false := by rw [beq_eq_false_iff_ne]; omega
  have e3 : (b != 9223372036854775807) = true := by rw [bne_iff_ne]; omega
  have e4 : ((m : Int) == (l.length : Int)) = false := by rw [beq_eq_false_iff_ne]; omega
  have hwsub : IntKind.i64.wrap ((l.length : Int) - (m : Int)) = (l.length : Int) - (m : Int) := IntWalk.i64_in _ (by omega)
  have hch := (((Chg.refl (fun k => k = g ∨ w.heap.size ≤ k) w).alloc (.cells #[.slice (some ⟨g, 0, none⟩) l.length cap] 76)).alloc (.cells #[.int .i64 a, .int .i64 b] IT)).alloc (.cells #[.int .i64 0] 3)
  have HK := Lib.hid hk
  have HM1 := Lib.hid hm1
  have HM2 := Lib.hid hm2
  clear hk hm1 hm2
  rcases ha with ⟨ha, hm0⟩ | ⟨ha0, hcl⟩
  all_goals first
    | (have hax := ha
       have e2 : (a != -9223372036854775808) = false := by rw [bne_eq_false_iff_eq]; exact ha
       have hS := hS.cast (m' := (m : Int)) (by rw [hm0]; rfl)
       have HM := Lib.hid hm0
       clear hm0 ha hax
       go_enter Tryz.func35, Tryz.ntmps35
       go_wp2_with fail
       generalize ((w.alloc _).alloc _).alloc _ = W2 at *
       generalize hA : w.heap.size = A at *
       have hz2 := hch.size
       have hs := searchHi_int A (A + 1 + 1) (A + 1) g cap m b l W2 (hS.cA.cell 0) (hS.cM.cell 0) (hS.cB.cell 1) hS.ivs (by omega) (by omega) hb0 hb1 HM2.out
       rw [show (l.length : Int) - (m : Int) = (l.length : Int) by have := HM.out; omega] at hs
       refine hs.mono ?_
       clear hs
       rintro e W3 ⟨rfl, hc3⟩
       have hS3 := hS.keepF hc3
       have hch3 := hch.trans (hc3.mono fun k h => h.elim))
    | (have e2 : (a != -9223372036854775808) = true := by rw [bne_iff_ne]; omega
       have HM := Lib.hid hcl
       clear hcl
       go_enter Tryz.func35, Tryz.ntmps35
       go_wp2_with fail
       generalize ((w.alloc _).alloc _).alloc _ = W at *
       generalize hA : w.heap.size = A at *
       have hz2 := hch.size
       refine (searchLo_any A (A + 1) g cap a l W (hS.cA.cell 0) (hS.cB.cell 0) hS.ivs (by omega) ha0 ha1 HM1.out).mono ?_
       rintro e W1 ⟨rfl, hc1⟩
       rw [show (List.range l.length).countP (fun i => !pLo l a i) = m from HM.out]
       have hS1 := hS.keepF hc1
       have c5 := hS1.cM.cell 0
       have z5 := hS1.cM.free 0
       have hS2 := hS1.setM (m : Int)
       have hch2 := (hch.trans (hc1.mono fun k h => h.elim)).setCell ⟨A + 1 + 1, 0, none⟩ (.inr (show A ≤ A + 1 + 1 by omega)) (.int .i64 (m : Int))
       have cAx := hS2.cA.cell 0
       have cBx := hS2.cB.cell 1
       have cMx := hS2.cM.cell 0
       go_wp2_with fail
       refine (searchHi_int A (A + 1 + 1) (A + 1) g cap m b l _ (hS2.cA.cell 0) (hS2.cM.cell 0) (hS2.cB.cell 1) hS2.ivs (by omega) (by omega) hb0 hb1 HM2.out).mono ?_
       rintro e W3 ⟨rfl, hc3⟩
       have hS3 := hS2.keepF hc3
       have hch3 := hch2.trans (hc3.mono fun k h => h.elim)
       clear c5 z5 hS2 hch2 cAx cBx cMx hS1 hc1)
  all_goals
    rw [HK.out]
    have cA := hS3.cA.cell 0
    have cB0 := hS3.cB.cell 0
    have cB1 := hS3.cB.cell 1
    have cM := hS3.cM.cell 0
    have r0 := (hS3.ivs m hl0).1
    have zr0 := hS3.free (m * 2)
    have e5 : ((k : Int) == 0) = false := by rw [beq_eq_false_iff_ne]; omega
    have i0 : (0 : Int) ≤ (m : Int) := by omega
    have i1 : (m : Int) < (l.length : Int) := by omega
    have hz3 := hch3.size
    have hg0 : l.getD m (0, 0) = l[m] := by rw [List.getD_eq_getElem?_getD, List.getElem?_eq_getElem hl0]; rfl
    have HG := Lib.hid hg0
    clear hg0
    by_cases hlt : a < l[m].1
    all_goals first
      | (have hltx : a < l[m].1 := hlt
         go_wp2_with fail
         go_quiet (fail)
         go_wp2_with fail
         have hS4 := (hS3.keepF ((Chg.refl _ W3).drewN nq)).setRow1 hl0 a
         rw [show a = min a l[m].1 by omega] at hS4
         have hch4 := (hch3.drewN nq).setCell ⟨g, m * 2, none⟩ (.inl rfl) (.int .i64 a)
         rw [show min a l[m].1 = a by omega] at hS4
         generalize (W3.drewN nq).setCell _ _ = W4 at *
         have hS4 : AS W4 A (A + 1) (A + 1 + 1) g cap base a b (m : Int) (l.set m (min a l[m].1, l[m].2)) := by rw [show min a l[m].1 = a by omega]; exact hS4)
      | (go_wp2_with fail
         go_quiet (fail)
         go_wp2_with fail
         have hS4 := (hS3.keepF ((Chg.refl _ W3).drewN nq))
         have hch4 := hch3.drewN nq
         generalize W3.drewN nq = W4 at *
         have hS4 : AS W4 A (A + 1) (A + 1 + 1) g cap base a b (m : Int) (l.set m (min a l[m].1, l[m].2)) := by rw [show min a l[m].1 = l[m].1 by omega, List.set_getElem_self]; exact hS4)
    all_goals
      clear cA cB0 cB1 cM r0 zr0
      have hj : m + k - 1 < l.length := by have := cHi_le l b m; have := HK.out; omega
      have r2 := (hS4.ivs (m + k - 1) (by rw [List.length_set]; exact hj)).2
      have S4 := as_cells hS4
      rw [List.length_set] at S4
      have hy : (l.set m (min a l[m].1, l[m].2))[m + k - 1]'(by rw [List.length_set]; exact hj) = if m = m + k - 1 then (min a l[m].1, l[m].2) else l[m + k - 1] := List.getElem_set _
      have hy2 : ((l.set m (min a l[m].1, l[m].2))[m + k - 1]'(by rw [List.length_set]; exact hj)).2 = l[m + k - 1].2 := by
        rw [hy]
        split
        · rename_i e
          simp only [← e]
        · rfl
      rw [hy2] at r2
      have hs1 : IntKind.i64.wrap ((k : Int) + (m : Int)) = (k : Int) + (m : Int) := IntWalk.i64_in _ (by omega)
      have hs2 : IntKind.i64.wrap ((k : Int) + (m : Int) - 1) = (k : Int) + (m : Int) - 1 := IntWalk.i64_in _ (by omega)
      have hs3 : ((k : Int) + (m : Int) - 1).toNat = m + k - 1 := by omega
      have j0 : (0 : Int) ≤ (k : Int) + (m : Int) - 1 := by omega
      have j1 : (k : Int) + (m : Int) - 1 < (l.length : Int) := by omega
      have j2 : (1 : Int) ≤ (k : Int) + (m : Int) := by omega
      have j3 : (k : Int) + (m : Int) ≤ (l.length : Int) := by omega
      have HY := Lib.hid hy2
      obtain ⟨s1, s2, s3, s4⟩ := S4
      clear hy hy2
      go_still_tail 15, (by kernel_rfl)
      change wpList _ _ _ _ _ W4.drew
      have hS5 := hS4.keepF ((Chg.refl _ W4).drew)
      have hch5 := hch4.drew
      clear hS4 hch4 s1 s2 s3 s4 r2
      generalize W4.drew = W5 at *
      have z5 := hS5.free (m * 2 + 1)
      have q5 := (hS5.ivs m (by rw [List.length_set]; exact hl0)).2
      go_wp2_with fail
      have hS6 := hS5.setRow2 (m := m) (by rw [List.length_set]; exact hl0) (max b l[m + k - 1].2)
      rw [show (l.set m (min a l[m].1, l[m].2))[m]'(by rw [List.length_set]; exact hl0) = (min a l[m].1, l[m].2) from List.getElem_set_self _, List.set_set] at hS6
      have hch6 := hch5.setCell ⟨g, m * 2 + 1, none⟩ (.inl rfl) (.int .i64 (max b l[m + k - 1].2))
      clear hS5 hch5 z5 q5 hs1 hs2 hs3 j0 j1 j2 j3
      generalize W5.setCell _ _ = W6 at *
      have hlen : (l.set m (min a l[m].1, max b l[m + k - 1].2)).length = l.length := List.length_set
      have hdrop : (l.set m (min a l[m].1, max b l[m + k - 1].2)).drop (m + k) = l.drop (m + k) := List.drop_set_of_lt (by omega)
      have htake : (l.set m (min a l[m].1, max b l[m + k - 1].2)).take (m + 1) = l.take m ++ [(min a l[m].1, max b l[m + k - 1].2)] := by
        rw [List.take_set, take_next hl0, List.set_append_right _ _ (by simp; omega)]
        simp [Nat.min_eq_left (Nat.le_of_lt hl0)]
      have hP := own_prefix hS6.own (by simp) (show m + 1 ≤ _ by rw [hlen]; omega)
      rw [flatI_take, htake] at hP
      have hsrc := hS6.src (m + k)
      rw [hdrop] at hsrc
      have S6 := as_cells hS6
      have hlc := hS6.lc
      have hcm := hS6.cm
      rw [hlen] at S6 hlc
      have hdl : (l.drop (m + k)).length = l.length - (m + k) := List.length_drop
      have hz6 := hch6.size
      have hgj : l.getD (m + k - 1) (0, 0) = l[m + k - 1] := by rw [List.getD_eq_getElem?_getD, List.getElem?_eq_getElem hj]; rfl
      have HG2 := Lib.hid hgj
      generalize hxy : (min a l[m].1, max b l[m + k - 1].2) = xy at *
      have HXY := Lib.hid hxy
      clear hdrop htake hgj hlen hxy
      obtain ⟨s1, s2, s3, s4⟩ := S6
      have hs1 : IntKind.i64.wrap ((k : Int) + (m : Int)) = (k : Int) + (m : Int) := IntWalk.i64_in _ (by omega)
      have hs2 : IntKind.i64.wrap ((m : Int) + 1) = (m : Int) + 1 := IntWalk.i64_in _ (by omega)
      have hs3 : ((k : Int) + (m : Int)).toNat = m + k := by omega
      have hs4 : ((m : Int) + 1).toNat = m + 1 := by omega
      have j0 : (0 : Int) ≤ (k : Int) + (m : Int) := by omega
      have j1 : (k : Int) + (m : Int) ≤ (l.length : Int) := by omega
      have j4 : (0 : Int) ≤ (m : Int) + 1 := by omega
      have j5 : (m : Int) + 1 ≤ (cap : Int) := by omega
      have hfin : ∀ (q : Nat) (v' : Value) (w2 : World), w2.ownsRow base IT 2 v' (m + 1 + (l.length - (m + k))) (flatI ((l.take m ++ [xy]) ++ l.drop (m + k))) → w2.ownsRow base IT 2 v' (l.length + 1 - k) (flatI (l.take m ++ ([xy] ++ l.drop (m + k)))) := fun q v' w2 h => by
        rw [show m + 1 + (l.length - (m + k)) = l.length + 1 - k by omega, List.append_assoc] at h
        exact h
      by_cases hcap : cap = m + k
      · have hd0 : l.drop (m + k) = [] := List.drop_eq_nil_iff.2 (by omega)
        subst hcap
        obtain ⟨v', w', hr, ho', hg⟩ := run_iv_append W6.drew base _ (m + 1) _ (own_drew hP) g 0 0 0 [] rfl (fun j u hj => by simp [flat] at hj) (by omega) (by have : w.heap.size ≤ W6.drew.heap.size := hz6; omega)
        have HR := Lib.hid hr
        have hcc := hch6.drew.trans ((Chg.ofGrown hg).mono fun k hk => .inl (by simp [Value.ownBlock] at hk; exact hk))
        have ho2 := hfin 0 v' w' (by
          rw [hd0, show m + 1 + (l.length - (m + k)) = m + 1 + 0 by omega]
          exact ho')
        clear hr hdl hd0 hsrc hP hfin ho' hg
        have j6 : (k : Int) + (m : Int) ≤ (m : Int) + (k : Int) := by omega
        have j7 : (m : Int) + 1 ≤ (m : Int) + (k : Int) := by omega
        have j8 : (1 : Int) ≤ (k : Int) := by omega
        have j9 : 1 ≤ k := hk0
        have j10 : m + 1 ≤ m + k := by omega
        go_still_tail 9, (by kernel_rfl)
        change wpList _ _ _ _ _ W6.drew
        go_wp2_with (first | (at_builtin; refine list_run 76 76 rfl (.tmp 90) (.tmp 95) rfl rfl rfl rfl HR.out ?_) | fail)
        go_ret
        subst hA
        refine ⟨_, rfl, ?_, hcc⟩
        rw [HG.out, HG2.out, HXY.out]
        exact ho2
      · obtain ⟨v', w', hr, ho', hg⟩ := run_iv_append W6.drew base _ (m + 1) _ (own_drew hP) g ((m + k) * 2) (l.length - (m + k)) (cap - (m + k)) (l.drop (m + k)) hdl (fun j u hj => hsrc j u hj) (by omega) (by have : w.heap.size ≤ W6.drew.heap.size := hz6; omega)
        have HR := Lib.hid hr
        have hcc := hch6.drew.trans ((Chg.ofGrown hg).mono fun k hk => .inl (by simp [Value.ownBlock] at hk; exact hk))
        have ho2 := hfin 0 _ _ ho'
        clear hr hdl hsrc hP hfin ho' hg
        go_still_tail 9, (by kernel_rfl)
        change wpList _ _ _ _ _ W6.drew
        go_wp2_with (first | (at_builtin; refine list_run 76 76 rfl (.tmp 90) (.tmp 95) rfl rfl rfl rfl HR.out ?_) | fail)
        go_ret
        subst hA
        refine ⟨_, rfl, ?_, hcc⟩
        rw [HG.out, HG2.out, HXY.out]
        exact ho2
end Go.Proofs.YthcmpkpbdgnfpaaGreatDoor
