/-
  impl.LabelsCompare; spec.Before.
-/
import Derived.Test.YtapoodnjkkhggaaGreatCmpW
import Derived.Test.YtapoodnjkkhggaaGreatAsk
namespace Go.Proofs.YtapoodnjkkhggaaGreat
set_option linter.unusedSimpArgs false
set_option linter.unusedVariables false
open Go.RowKit

theorem befP_cases : ∀ a b : List Lb, befP a b = -1 ∨ befP a b = 0 ∨ befP a b = 1
  | [], [] => .inr (.inl rfl)
  | [], _ :: _ => .inl rfl
  | _ :: _, [] => .inr (.inr rfl)
  | x :: a, y :: b => by
    rw [befP]
    split
    · exact .inl rfl
    · split
      · exact befP_cases a b
      · exact .inr (.inr rfl)
set_option maxRecDepth 100000 in
set_option maxHeartbeats 4000000 in
theorem labelsCompare_any (va vb : Value) (l m : List Lb) (w : World) (ha : Ls w va l) (hb : Ls w vb m) (hl : l.length ≤ 12) (hm : m.length ≤ 12) (hf : FitL l) (hg : FitL m) (hA : Lbl (sortL l)) (hB : Lbl (sortL m)) :
    Calls Tryz.prog 41 #[va, vb] w fun e w' => e = .returned (.tuple #[.int .i64 (befP (sortL l) (sortL m)), .bool (decide (sortL l = sortL m))]) ∧ Below w.heap.size w w' := by
  have hM1 := made_any va l w ha hl hf
  have hM2 := fun w' (hb' : Ls w' vb m) => made_any vb m w' hb' hm hg
  have hC := fun w => compare_any (sortL l) (sortL m) w hA.fit hB.fit hA.enc hB.enc
  have hE := fun w => equal_any (sortL l) (sortL m) w hA.fit hB.fit
  obtain ⟨ao, cap, rfl, q1, q2⟩ := ha.form
  obtain ⟨bo, bcap, rfl, q3, q4⟩ := hb.form
  unfold lbsV at *
  have hcs := befP_cases (sortL l) (sortL m)
  generalize (⟨(encL (sortL l)).toArray⟩ : ByteArray) = d at *
  generalize (⟨(encL (sortL m)).toArray⟩ : ByteArray) = d' at *
  generalize decide (sortL l = sortL m) = same at *
  obtain ⟨B, hBe⟩ : ∃ B, B = befP (sortL l) (sortL m) := ⟨_, rfl⟩
  rw [← hBe] at hC hcs ⊢
  clear hBe
  go_enter Tryz.func41, Tryz.ntmps41
  go_wp2_with (first | ((with_reducible refine hM1.mono ?_); rintro e w1 ⟨rfl, hb1⟩; have hb' := hb.up hb1) | ((with_reducible refine (hM2 _ hb').mono ?_); rintro e w2 ⟨rfl, hb2⟩) | fail)
  have hX := (Blk.new w2 [.string d] LST).alloc (.cells #[.string d'] LST)
  have hY : Blk ((w2.alloc (.cells #[.string d] LST)).alloc (.cells #[.string d'] LST)) (w2.heap.size + 1) [.string d'] LST := by
    have := Blk.new (w2.alloc (.cells #[.string d] LST)) [.string d'] LST
    simpa using this
  have hb3 := ((bnx hb1 hb2).alloc (Nat.le_trans hb1.size hb2.size) (.cells #[.string d] LST)).alloc (by have := hb1.size; have := hb2.size; simp; omega) (.cells #[.string d'] LST)
  have cx := hX.cell 0
  have cy := hY.cell 0
  simp only [List.getElem?_cons_zero] at cx cy
  have hCC := hC ((w2.alloc (.cells #[.string d] LST)).alloc (.cells #[.string d'] LST))
  refine hCC.mono ?_
  rintro e w3 ⟨z, rfl, ⟨hs1, hs2⟩, hb4⟩
  have cx3 := (hb4.cell (lt_of_cell cx).1).trans cx
  have cy3 := (hb4.cell (lt_of_cell cy).1).trans cy
  have hb5 := hb3.trans (hb4.mono hb3.size)
  clear hC hCC hM1 hM2 hX hY hb1 hb2 hb3 hb4 cx cy
  rcases hcs with rfl | rfl | rfl
  · have hz : z < 0 := hs1.2 rfl
    clear hs1 hs2
    go_wp2_with ((with_reducible refine (hE _).mono ?_); rintro e w4 ⟨rfl, hb6⟩)
    go_ret2
    exact ⟨rfl, hb5.trans (hb6.mono hb5.size)⟩
  · have hz : ¬ z < 0 := fun c => absurd (hs1.1 c) (by decide)
    have hz2 : ¬ 0 < z := fun c => absurd (hs2.1 c) (by decide)
    clear hs1 hs2
    go_wp2_with ((with_reducible refine (hE _).mono ?_); rintro e w4 ⟨rfl, hb6⟩)
    go_ret2
    exact ⟨rfl, hb5.trans (hb6.mono hb5.size)⟩
  · have hz : 0 < z := hs2.2 rfl
    have hz2 : ¬ z < 0 := by omega
    clear hs1 hs2
    go_wp2_with ((with_reducible refine (hE _).mono ?_); rintro e w4 ⟨rfl, hb6⟩)
    go_ret2
    exact ⟨rfl, hb5.trans (hb6.mono hb5.size)⟩
set_option maxRecDepth 100000 in
set_option maxHeartbeats 4000000 in
theorem before_any (va vb : Value) (l m : List Lb) (w : World) (ha : Ls w va l) (hb : Ls w vb m) (hl : l.length ≤ 1000000) (hm : m.length ≤ 1000000) :
    Calls Tryz.prog 30 #[va, vb] w fun e w' => e = .returned (.int .i64 (befP l m)) ∧ Below w.heap.size w w' := by
  obtain ⟨ao, cap, rfl, h1, h2⟩ := ha.form
  obtain ⟨bo, bcap, rfl, g1, g2⟩ := hb.form
  go_enter Tryz.func30, Tryz.ntmps30
  go_wp2_with fail
  go_loopw [5] (fun i wr => ∃ k : Nat, k ≤ l.length ∧ k ≤ m.length ∧ i = .int .i64 k ∧ Hid (befP l m = befP (l.drop k) (m.drop k)) ∧ Below w.heap.size w wr) (fun i _ => l.length - (intOf i).toNat)
  case atStart => exact ⟨0, Nat.zero_le _, Nat.zero_le _, rfl, Lib.hid rfl, Below.refl _ _⟩
  case round => as_aux_lemma =>
    obtain ⟨k, hk, hk', rfl, heq, hbel⟩ := hrel
    by_cases hlt : k < l.length
    · have i1 : (k : Int) < (l.length : Int) := by omega
      by_cases hlt' : k < m.length
      · have i2 : (k : Int) < (m.length : Int) := by omega
        have i0 : (0 : Int) ≤ (k : Int) := by omega
        obtain ⟨x, xo, rfl, hx1, hxc⟩ := ha.at_ (by omega)
        obtain ⟨y, yo, rfl, hy1, hyc⟩ := hb.at_ (by omega)
        have c0 := (hbel.cell (p := ⟨x, xo + k * 2, none⟩) hx1).trans (hxc k hlt).1
        have c1 := (hbel.cell (p := ⟨x, xo + k * 2 + 1, none⟩) hx1).trans (hxc k hlt).2
        have c3 := (hbel.cell (p := ⟨y, yo + k * 2, none⟩) hy1).trans (hyc k hlt').1
        have c4 := (hbel.cell (p := ⟨y, yo + k * 2 + 1, none⟩) hy1).trans (hyc k hlt').2
        have HB := Lib.hid (heq.out.trans (befP_drop hlt hlt'))
        clear hxc hyc ha hb heq
        generalize l[k] = q at *
        generalize m[k] = r at *
        obtain ⟨q0, q1⟩ := q
        obtain ⟨r0, r1⟩ := r
        simp only at c0 c1 c3 c4
        cases e1 : Op.bytesLess q0.toList r0.toList
        · by_cases e2 : q0 = r0
          · subst e2
            cases e3 : Op.bytesLess q1.toList r1.toList
            · by_cases e4 : q1 = r1
              · subst e4
                have HG := Lib.hid (show befP l m = befP (l.drop (k + 1)) (m.drop (k + 1)) by
                  rw [HB.out, if_neg (by rintro (c | c); · exact absurd (e1.symm.trans c) (by decide)
                                         · exact absurd (e3.symm.trans c.2) (by decide)), if_pos rfl])
                go_wp2_with fail
                go_quiet (fail)
                go_wp2_with fail
                go_quiet (fail)
                go_wp2_with fail
                go_quiet (fail)
                go_wp2_with fail
                go_roundw
                case rel => exact ⟨k + 1, by omega, by omega, by simp, HG, below_drewN hbel _⟩
                case measure => simp [intOf]; omega
              · have HG := Lib.hid (show befP l m = 1 by
                  rw [HB.out, if_neg (by rintro (c | c); · exact absurd (e1.symm.trans c) (by decide)
                                         · exact absurd (e3.symm.trans c.2) (by decide)), if_neg (fun c => e4 (congrArg (·.2) c))])
                have e4' := str_ne e4
                clear e4
                go_wp2_with fail
                go_quiet (fail)
                go_wp2_with fail
                go_quiet (fail)
                go_wp2_with fail
                go_quiet (fail)
                go_wp2_with fail
                go_ret
                rw [HG.out]
                exact ⟨rfl, by first | exact below_drewN hbel _ | exact below_drewN (below_drewN hbel _) _ | exact below_drewN (below_drewN (below_drewN hbel _) _) _⟩
            · have HG := Lib.hid (show befP l m = -1 by rw [HB.out, if_pos (.inr ⟨rfl, e3⟩)])
              go_wp2_with fail
              go_quiet (fail)
              go_wp2_with fail
              go_quiet (fail)
              go_wp2_with fail
              go_ret
              rw [HG.out]
              exact ⟨rfl, by first | exact below_drewN hbel _ | exact below_drewN (below_drewN hbel _) _ | exact below_drewN (below_drewN (below_drewN hbel _) _) _⟩
          · have HG := Lib.hid (show befP l m = 1 by
              rw [HB.out, if_neg (by rintro (c | c); · exact absurd (e1.symm.trans c) (by decide)
                                     · exact e2 c.1), if_neg (fun c => e2 (congrArg (·.1) c))])
            have e2' := str_ne e2
            clear e2
            go_wp2_with fail
            go_quiet (fail)
            go_wp2_with fail
            go_quiet (fail)
            go_wp2_with fail
            go_quiet (fail)
            go_wp2_with fail
            go_ret
            rw [HG.out]
            exact ⟨rfl, by first | exact below_drewN hbel _ | exact below_drewN (below_drewN hbel _) _ | exact below_drewN (below_drewN (below_drewN hbel _) _) _⟩
        · have HG := Lib.hid (show befP l m = -1 by rw [HB.out, if_pos (.inl e1)])
          go_wp2_with fail
          go_quiet (fail)
          go_wp2_with fail
          go_ret
          rw [HG.out]
          exact ⟨rfl, by first | exact below_drewN hbel _ | exact below_drewN (below_drewN hbel _) _ | exact below_drewN (below_drewN (below_drewN hbel _) _) _⟩
      · obtain rfl : k = m.length := by omega
        have HG := Lib.hid (show befP l m = 1 by
          rw [heq.out, List.drop_length, List.drop_eq_getElem_cons hlt]; rfl)
        have i3 : ¬ (m.length : Int) < (m.length : Int) := by omega
        have i4 : ¬ (l.length : Int) < (m.length : Int) := by omega
        go_wp2_with fail
        go_ret
        rw [HG.out]
        exact ⟨rfl, hbel⟩
    · obtain rfl : k = l.length := by omega
      have i3 : ¬ (l.length : Int) < (l.length : Int) := by omega
      by_cases hlt' : l.length < m.length
      · have HG := Lib.hid (show befP l m = -1 by
          rw [heq.out, List.drop_length, List.drop_eq_getElem_cons hlt']; rfl)
        have i4 : (l.length : Int) < (m.length : Int) := by omega
        go_wp2_with fail
        go_ret
        rw [HG.out]
        exact ⟨rfl, hbel⟩
      · have HG := Lib.hid (show befP l m = 0 by
          rw [heq.out, List.drop_length, List.drop_of_length_le (by omega)]; rfl)
        have i4 : ¬ (l.length : Int) < (m.length : Int) := by omega
        have i5 : ¬ (m.length : Int) < (l.length : Int) := by omega
        go_wp2_with fail
        go_ret
        rw [HG.out]
        exact ⟨rfl, hbel⟩
end Go.Proofs.YtapoodnjkkhggaaGreat
