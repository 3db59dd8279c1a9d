/-
  spec.Sorted.
-/
import Derived.Test.YtapoodnjkkhggaaGreatApL
import Derived.BigQuiet
import Derived.Deep.RegionLaw
import Derived.BigRegion
namespace Go.Proofs.YtapoodnjkkhggaaGreat
set_option linter.unusedSimpArgs false
set_option linter.unusedVariables false
open Go.RowKit

theorem LsB.ofBlk {w : World} {g : Nat} {x1 x2 : ByteArray} {t : TypeId} (h : Blk w g [.string x1, .string x2] t) : LsB w w.heap.size (.slice (some ⟨g, 0, none⟩) 1 1) [(x1, x2)] := by
  refine ⟨_, 1, rfl, Nat.le_refl _, by unfold maxLen; omega, .inr ⟨g, 0, rfl, h.lt, Nat.le_refl _, fun i hi => ?_⟩⟩
  have hi' : i = 0 ∨ i = 1 := by simp at hi; omega
  rcases hi' with rfl | rfl
  · exact h.cell 0
  · exact h.cell 1
theorem own_lrow2 {w : World} {base : Nat} {n : Nat} {v : Value} {xs : List Value} (h : w.ownsRow base IT0 2 v n xs) : (v = .slice none 0 0 ∧ n = 0) ∨ ∃ g cap, v = .slice (some ⟨g, 0, none⟩) n cap ∧ base ≤ g := by
  obtain ⟨hl, ⟨rfl, h0⟩ | ⟨g, cap, cur, rfl, h1, _⟩⟩ := h
  · exact .inl ⟨rfl, h0⟩
  · exact .inr ⟨g, cap, rfl, h1⟩
theorem size_alloc_le (w : World) (o : Obj) : w.heap.size ≤ (w.alloc o).heap.size := by simp
theorem lcells_ins (O : List Lb) (x : Lb) (j : Nat) (h : posR x O O.length = j) : lcells (O.take j) ++ lcells [x] ++ lcells (O.drop j) = lcells (ins O x) := by
  unfold ins
  rw [h, lcells_append, lcells_cons]
  simp [lcells]
set_option maxRecDepth 100000 in
set_option maxHeartbeats 40000000 in
theorem sorted_any (v : Value) (l : List Lb) (w : World) (h : Ls w v l) (hl : l.length ≤ 1000) :
    Calls Tryz.prog 22 #[v] w fun e w' => ∃ x, e = .returned x ∧ w'.ownsRow w.heap.size IT0 2 x l.length (lcells (sortL l)) ∧ Below w.heap.size w w' := by
  obtain ⟨ao, cap, rfl, h1, h2⟩ := h.form
  go_enter Tryz.func22, Tryz.ntmps22
  go_wp2_with fail
  go_loopw [3, 4] (fun o i wr => ∃ k : Nat, k ≤ l.length ∧ i = .int .i64 k ∧ wr.ownsRow w.heap.size IT0 2 o k (lcells (sortL (l.take k))) ∧ Below w.heap.size w wr) (fun _ i _ => l.length - (intOf i).toNat)
  case atStart => exact ⟨0, Nat.zero_le _, rfl, World.ownsRow_nil _ _ _ _, Below.refl _ _⟩
  case round =>
    obtain ⟨k, hk, rfl, ho, hbel⟩ := hrel
    obtain ⟨za, zc, rfl⟩ := own_form ho
    by_cases hlt : k < l.length
    · obtain ⟨b, off, rfl, hb, hc⟩ := h.at_ (by omega)
      obtain ⟨c0, c1⟩ := hc k hlt
      have hO : (sortL (l.take k)).length = k := by rw [sortL_length, List.length_take]; omega
      have HN := Lib.hid (sort_next hlt)
      clear hc
      generalize hOe : sortL (l.take k) = O at *
      generalize l[k] = x at *
      obtain ⟨x1, x2⟩ := x
      simp only at c0 c1
      clear hOe
      have i0 : (0 : Int) ≤ (k : Int) := by omega
      have i1 : (k : Int) < (l.length : Int) := by omega
      go_wp2_with fail
      go_loopw [5] (fun jv wi => ∃ j : Nat, j ≤ k ∧ jv = .int .i64 j ∧ Hid (posR (x1, x2) O k = posR (x1, x2) O j) ∧ wi.ownsRow w.heap.size IT0 2 (.slice za k zc) k (lcells O) ∧ Below w.heap.size w wi) (fun jv _ => (intOf jv).toNat)
      case atStart => exact ⟨k, Nat.le_refl _, rfl, Lib.hid rfl, ho, hbel⟩
      case round =>
        clear ho hbel
        obtain ⟨j, hj, rfl, hpos, ho, hbel⟩ := hrel
        have c0' := (hbel.cell (p := ⟨b, off + k * 2, none⟩) hb).trans c0
        have c1' := (hbel.cell (p := ⟨b, off + k * 2 + 1, none⟩) hb).trans c1
        have hL : Ls wr (.slice za k zc) O := Ls.own ho
        have hkz : k ≤ zc := by
          obtain ⟨_, _, e, h3, _⟩ := hL.form
          cases e
          rw [hO] at h3
          exact h3
        by_cases hcont : 0 < j ∧ lt x1 (O.getD (j - 1) lb0).1 = true
        · have hj0 := hcont.1
          obtain ⟨ob, oo, rfl, hob, hoc⟩ := hL.at_ (by omega)
          have hj1 : j - 1 < O.length := by omega
          obtain ⟨p0, -⟩ := hoc (j - 1) hj1
          have hyd : O.getD (j - 1) lb0 = O[j - 1] := by simp [List.getD_eq_getElem?_getD, hj1]
          have hlf : Op.bytesLess x1.toList O[j - 1].1.toList = true := by have := hcont.2; rw [hyd] at this; exact this
          have HPP := Lib.hid (show posR (x1, x2) O k = posR (x1, x2) O (j - 1) by
            rw [hpos.out]
            obtain ⟨m, rfl⟩ : ∃ m, j = m + 1 := ⟨j - 1, by omega⟩
            have hq := hcont.2
            simp only [Nat.add_sub_cancel] at hq ⊢
            rw [posR, if_pos hq])
          clear hyd hoc
          generalize O[j - 1] = y at *
          obtain ⟨y1, y2⟩ := y
          simp only at p0
          have jn : ((j : Int) - 1).toNat = j - 1 := by omega
          have jw : IntKind.i64.wrap ((j : Int) - 1) = (j : Int) - 1 := IntWalk.i64_in _ (by omega)
          have jj0 : (0 : Int) ≤ (j : Int) - 1 := by omega
          have jj1 : (j : Int) - 1 < (k : Int) := by omega
          have jj2 : (1 : Int) ≤ (j : Int) := by omega
          have jj3 : (0 : Int) < (j : Int) := by omega
          clear hcont
          go_wp2_with fail
          go_quiet (fail)
          go_wp2_with fail
          go_roundw
          case rel => exact ⟨j - 1, by omega, by go_num, HPP, own_drewN ho nq, below_drewN hbel nq⟩
          case measure => simp [intOf]; omega
        · have HP := Lib.hid (show posR (x1, x2) O k = j by
            rw [hpos.out]
            rcases Nat.eq_zero_or_pos j with rfl | hj0
            · rfl
            · obtain ⟨m, rfl⟩ : ∃ m, j = m + 1 := ⟨j - 1, by omega⟩
              have : lt x1 (O.getD m lb0).1 = false := by
                cases hq : lt x1 (O.getD m lb0).1
                · rfl
                · exact absurd ⟨Nat.succ_pos _, hq⟩ hcont
              rw [posR, this]
              rfl)
          have HI := Lib.hid (lcells_ins O (x1, x2) j (by rw [hO]; exact HP.out))
          have j0 : (0 : Int) ≤ (j : Int) := by omega
          have j1 : (j : Int) ≤ (k : Int) := by omega
          have j2 : (j : Int) ≤ (zc : Int) := by omega
          have j3 : (k : Int) ≤ (zc : Int) := by omega
          rcases own_lrow2 ho with ⟨hv, rfl⟩ | ⟨g, cap', hv, hgb⟩
          · cases hv
            obtain rfl : O = [] := List.length_eq_zero_iff.1 hO
            obtain rfl : j = 0 := by omega
            have n0 : decide ((0 : Int) < ((0 : Nat) : Int)) = false := rfl
            go_wp2_with fail
            go_quiet (fail)
            go_wp2_with fail
            have hWb := below_drewN hbel nq
            have hWo := own_drewN ho nq
            have d0 : (wr.drewN nq).cell? ⟨b, off, none⟩ = some (.string x1) := by simpa using c0'
            have d1 : (wr.drewN nq).cell? ⟨b, off + 1, none⟩ = some (.string x2) := by simpa using c1'
            have hzW : w.heap.size ≤ (wr.drewN nq).heap.size := hWb.size
            generalize wr.drewN nq = W0 at *
            clear c0' c1' ho hbel hL
            have hbW : b < W0.heap.size := (lt_of_cell d0).1
            have B1 := below_newd W0 (.cells #[] IT0)
            have f0 := (B1.cell (p := ⟨b, off, none⟩) hbW).trans d0
            have f1 := (B1.cell (p := ⟨b, off + 1, none⟩) hbW).trans d1
            have B1x := below_new W0 (.cells #[.string x1, .string x2] IT0)
            have B2 : Below W0.heap.size W0 ((W0.alloc (.cells #[] IT0)).alloc (.cells #[.string x1, .string x2] IT0)).drew := (B1.alloc (by simp) _)
            have B3 : Below W0.heap.size W0 ((W0.alloc (.cells #[.string x1, .string x2] IT0)).alloc (.cells #[] IT0)).drew := (B1x.alloc (by simp) _).drew
            have E1 : (W0.alloc (.cells #[] IT0)).drew.ownsRow W0.heap.size IT0 2 (.slice (some ⟨W0.heap.size, 0, none⟩) 0 0) 0 [] := own_drew (own_empty W0 IT0 2)
            have E2 : ((W0.alloc (.cells #[] IT0)).alloc (.cells #[.string x1, .string x2] IT0)).drew.ownsRow W0.heap.size IT0 2 (.slice (some ⟨W0.heap.size, 0, none⟩) 0 0) 0 [] := own_drew (own_alloc (own_empty W0 IT0 2) (.cells #[.string x1, .string x2] IT0))
            have E3 : ((W0.alloc (.cells #[.string x1, .string x2] IT0)).alloc (.cells #[] IT0)).drew.ownsRow W0.heap.size IT0 2 (.slice (some ⟨W0.heap.size + 1, 0, none⟩) 0 0) 0 [] := by
              have := own_base (own_empty (W0.alloc (.cells #[.string x1, .string x2] IT0)) IT0 2) (base' := W0.heap.size) (by simp)
              have := own_drew this
              simpa using this
            have X2 : Blk ((W0.alloc (.cells #[] IT0)).alloc (.cells #[.string x1, .string x2] IT0)).drew (W0.heap.size + 1) [.string x1, .string x2] IT0 := by
              have := (Blk.new (W0.alloc (.cells #[] IT0)) [.string x1, .string x2] IT0).drew
              simpa using this
            have X3 := ((Blk.new W0 [.string x1, .string x2] IT0).alloc (.cells #[] IT0)).drew
            have Z1 : W0.heap.size ≤ (W0.alloc (.cells #[] IT0)).drew.heap.size := by simp <;> omega
            have Z2 : W0.heap.size ≤ ((W0.alloc (.cells #[] IT0)).alloc (.cells #[.string x1, .string x2] IT0)).drew.heap.size := by simp <;> omega
            have Z3 : W0.heap.size ≤ ((W0.alloc (.cells #[.string x1, .string x2] IT0)).alloc (.cells #[] IT0)).drew.heap.size := by simp <;> omega
            have n2 : 0 + [(x1, x2)].length = 1 ∧ 1 ≤ 2147483648 ∧ lcells [(x1, x2)] = [] ++ lcells [(x1, x2)] := ⟨rfl, by omega, rfl⟩
            have n3 : 1 + ([] : List Lb).length = 1 ∧ 1 ≤ 2147483648 ∧ lcells (ins [] (x1, x2)) = lcells [(x1, x2)] ++ lcells [] := ⟨rfl, by omega, rfl⟩
            have hs2 := LsB.ofBlk X2
            have hs3 := LsB.ofBlk X3
            go_region_law (first
              | (refine step_ls rfl (.tmp 36) (.tmp 41) rfl rfl rfl rfl W0.heap.size 0 [] _ [(x1, x2)] 1 (lcells [(x1, x2)]) E2 hs2 n2 Z2 ?_; intro v4 w4 ho4 hg4; obtain ⟨va4, vc4, rfl⟩ := own_form ho4; have hb4 := B2.grown hg4 Z2 (fun q hq => (E2.lt q hq).1))
              | (refine step_ls rfl (.tmp 36) (.tmp 41) rfl rfl rfl rfl W0.heap.size 0 [] _ [(x1, x2)] 1 (lcells [(x1, x2)]) E3 hs3 n2 Z3 ?_; intro v4 w4 ho4 hg4; obtain ⟨va4, vc4, rfl⟩ := own_form ho4; have hb4 := B3.grown hg4 Z3 (fun q hq => (E3.lt q hq).1))
              | (refine step_ls rfl (.tmp 42) (.tmp 45) rfl rfl rfl rfl W0.heap.size 1 (lcells [(x1, x2)]) w4.heap.size [] 1 (lcells (ins [] (x1, x2))) ho4 (Ls.nil w4) n3 hb4.size ?_; intro v6 w6 ho6 hg6; obtain ⟨va6, vc6, rfl⟩ := own_form ho6; have hb6 := hb4.grown hg6 hb4.size (fun q hq => (ho4.lt q hq).1))
              | fail)
            all_goals (have HO := Lib.hid (own_base ho6 hzW); have HB := Lib.hid (hWb.trans (hb6.mono hzW)); clear E1 E2 E3 X2 X3 Z1 Z2 Z3 n2 n3 B1 B1x B2 B3 f0 f1 d0 d1 hs2 hs3 ho4 hg4 hb4 ho6 hg6 hb6 hWo hWb hbW hzW; go_wp2_with fail; go_roundw; (case rel => exact ⟨1, by omega, by go_num, by rw [HN.out]; exact HO.out, HB.out⟩); (case measure => simp [intOf]; omega))
          · cases hv
            rcases Nat.eq_zero_or_pos j with hz0 | hj0
            · have n0 : decide ((0 : Int) < (j : Int)) = false := decide_eq_false (by omega)
              have n00 : decide (0 < j) = false := decide_eq_false (by omega)
              have HZ := Lib.hid hz0
              clear hz0
              go_wp2_with fail
              go_quiet (fail)
              go_wp2_with fail
              have hWb := below_drewN hbel nq
              have hWo := own_drewN ho nq
              have d0 : (wr.drewN nq).cell? ⟨b, off + k * 2, none⟩ = some (.string x1) := c0'
              have d1 : (wr.drewN nq).cell? ⟨b, off + k * 2 + 1, none⟩ = some (.string x2) := c1'
              have hzW : w.heap.size ≤ (wr.drewN nq).heap.size := hWb.size
              generalize wr.drewN nq = W0 at *
              clear c0' c1' ho hbel hL
              have hbW : b < W0.heap.size := (lt_of_cell d0).1
              have B1 := below_newd W0 (.cells #[] IT0)
              have f0 := (B1.cell (p := ⟨b, off + k * 2, none⟩) hbW).trans d0
              have f1 := (B1.cell (p := ⟨b, off + k * 2 + 1, none⟩) hbW).trans d1
              have B1x := below_new W0 (.cells #[.string x1, .string x2] IT0)
              have B2 : Below W0.heap.size W0 ((W0.alloc (.cells #[] IT0)).alloc (.cells #[.string x1, .string x2] IT0)).drew := (B1.alloc (by simp) _)
              have B3 : Below W0.heap.size W0 ((W0.alloc (.cells #[.string x1, .string x2] IT0)).alloc (.cells #[] IT0)).drew := (B1x.alloc (by simp) _).drew
              have E1 : (W0.alloc (.cells #[] IT0)).drew.ownsRow W0.heap.size IT0 2 (.slice (some ⟨W0.heap.size, 0, none⟩) 0 0) 0 [] := own_drew (own_empty W0 IT0 2)
              have E2 : ((W0.alloc (.cells #[] IT0)).alloc (.cells #[.string x1, .string x2] IT0)).drew.ownsRow W0.heap.size IT0 2 (.slice (some ⟨W0.heap.size, 0, none⟩) 0 0) 0 [] := own_drew (own_alloc (own_empty W0 IT0 2) (.cells #[.string x1, .string x2] IT0))
              have E3 : ((W0.alloc (.cells #[.string x1, .string x2] IT0)).alloc (.cells #[] IT0)).drew.ownsRow W0.heap.size IT0 2 (.slice (some ⟨W0.heap.size + 1, 0, none⟩) 0 0) 0 [] := by
                have := own_base (own_empty (W0.alloc (.cells #[.string x1, .string x2] IT0)) IT0 2) (base' := W0.heap.size) (by simp)
                have := own_drew this
                simpa using this
              have X2 : Blk ((W0.alloc (.cells #[] IT0)).alloc (.cells #[.string x1, .string x2] IT0)).drew (W0.heap.size + 1) [.string x1, .string x2] IT0 := by
                have := (Blk.new (W0.alloc (.cells #[] IT0)) [.string x1, .string x2] IT0).drew
                simpa using this
              have X3 := ((Blk.new W0 [.string x1, .string x2] IT0).alloc (.cells #[] IT0)).drew
              have hLW : LsB W0 W0.heap.size (.slice (some ⟨g, 0, none⟩) k zc) O := Ls.own hWo
              have S1 : ∀ w', Below W0.heap.size W0 w' → LsB w' W0.heap.size (.slice (some ⟨g, 0, none⟩) j zc) (O.take j) := fun w' hb' => (hLW.take (by omega)).below hb' (Nat.le_refl _)
              have S2 : ∀ w', Below W0.heap.size W0 w' → LsB w' W0.heap.size (.slice (if zc = j then some ⟨g, 0, none⟩ else some ⟨g, j * 2, none⟩) (k - j) (zc - j)) (O.drop j) := fun w' hb' => (hLW.drop (by omega) (fun b' off' e hlt' => by cases e; rw [if_neg (by omega), Nat.zero_add])).below hb' (Nat.le_refl _)
              have Z1 : W0.heap.size ≤ (W0.alloc (.cells #[] IT0)).drew.heap.size := by simp <;> omega
              have Z2 : W0.heap.size ≤ ((W0.alloc (.cells #[] IT0)).alloc (.cells #[.string x1, .string x2] IT0)).drew.heap.size := by simp <;> omega
              have Z3 : W0.heap.size ≤ ((W0.alloc (.cells #[.string x1, .string x2] IT0)).alloc (.cells #[] IT0)).drew.heap.size := by simp <;> omega
              have n1 : 0 + (O.take j).length = j ∧ j ≤ 2147483648 ∧ lcells (O.take j) = [] ++ lcells (O.take j) := ⟨by rw [List.length_take]; omega, by omega, rfl⟩
              have n2 : j + [(x1, x2)].length = j + 1 ∧ j + 1 ≤ 2147483648 ∧ lcells (O.take j) ++ lcells [(x1, x2)] = lcells (O.take j) ++ lcells [(x1, x2)] := ⟨rfl, by omega, rfl⟩
              have n3 : j + 1 + (O.drop j).length = k + 1 ∧ k + 1 ≤ 2147483648 ∧ lcells (ins O (x1, x2)) = lcells (O.take j) ++ lcells [(x1, x2)] ++ lcells (O.drop j) := ⟨by rw [List.length_drop]; omega, by omega, HI.out.symm⟩
              have N2 : ¬ some (W0.heap.size + 1) = (Value.slice (some ⟨W0.heap.size, 0, none⟩) 0 0).ownBlock := by simp [Value.ownBlock]
              have N3 : ¬ some W0.heap.size = (Value.slice (some ⟨W0.heap.size + 1, 0, none⟩) 0 0).ownBlock := by simp [Value.ownBlock]
              go_region_law (first
                | (refine step_ls rfl (.tmp 32) (.tmp 35) rfl rfl rfl rfl W0.heap.size 0 [] W0.heap.size (O.take j) j (lcells (O.take j)) ?_ ?_ n1 ?_ ?_; (first | exact E1 | exact E2 | exact E3); (first | exact S1 _ B1 | exact S1 _ B2 | exact S1 _ B3); (first | exact Z1 | exact Z2 | exact Z3); intro v2 w2 ho2 hg2; obtain ⟨va2, vc2, rfl⟩ := own_form ho2; (first | (have hb2 := B1.grown hg2 Z1 (fun q hq => (E1.lt q hq).1); have hx2 := Blk.new w2 [.string x1, .string x2] IT0; have hs2 := LsB.ofBlk hx2; have hq2 := own_alloc ho2 (.cells #[.string x1, .string x2] IT0); have hB2 := hb2.alloc hb2.size (.cells #[.string x1, .string x2] IT0)) | (have hb2 := B2.grown hg2 Z2 (fun q hq => (E2.lt q hq).1); have hx2 := X2.chg (Chg.ofGrown hg2) N2; have hs2 := LsB.ofBlk hx2; have hq2 := ho2; have hB2 := hb2) | (have hb2 := B3.grown hg2 Z3 (fun q hq => (E3.lt q hq).1); have hx2 := X3.chg (Chg.ofGrown hg2) N3; have hs2 := LsB.ofBlk hx2; have hq2 := ho2; have hB2 := hb2)); have g0 := (hb2.cell (p := ⟨b, off + k * 2, none⟩) hbW).trans d0; have g1 := (hb2.cell (p := ⟨b, off + k * 2 + 1, none⟩) hbW).trans d1)
                | (refine step_ls rfl (.tmp 36) (.tmp 41) rfl rfl rfl rfl W0.heap.size j (lcells (O.take j)) _ [(x1, x2)] (j + 1) (lcells (O.take j) ++ lcells [(x1, x2)]) hq2 hs2 n2 hB2.size ?_; intro v4 w4 ho4 hg4; obtain ⟨va4, vc4, rfl⟩ := own_form ho4; have hb4 := hB2.grown hg4 hB2.size (fun q hq => (hq2.lt q hq).1))
                | (refine step_ls rfl (.tmp 42) (.tmp 45) rfl rfl rfl rfl W0.heap.size (j + 1) (lcells (O.take j) ++ lcells [(x1, x2)]) W0.heap.size (O.drop j) (k + 1) (lcells (ins O (x1, x2))) ho4 (S2 _ hb4) n3 hb4.size ?_; intro v6 w6 ho6 hg6; obtain ⟨va6, vc6, rfl⟩ := own_form ho6; have hb6 := hb4.grown hg6 hb4.size (fun q hq => (ho4.lt q hq).1))
                | fail)
              all_goals (have HO := Lib.hid (own_base ho6 hzW); have HB := Lib.hid (hWb.trans (hb6.mono hzW)); clear E1 E2 E3 X2 X3 S1 S2 Z1 Z2 Z3 n1 n2 n3 N2 N3 B1 B1x B2 B3 f0 f1 d0 d1 hLW ho2 hg2 hb2 hs2 hq2 hB2 hx2 g0 g1 ho4 hg4 hb4 ho6 hg6 hb6 hWo hWb hbW hzW; go_wp2_with fail; go_roundw; (case rel => exact ⟨k + 1, by omega, by go_num, by rw [HN.out]; exact HO.out, HB.out⟩); (case measure => simp [intOf]; omega))
            · obtain ⟨ob, oo, hoe, hob, hoc⟩ := hL.at_ (by omega)
              cases hoe
              have hj1 : j - 1 < O.length := by omega
              obtain ⟨p0, -⟩ := hoc (j - 1) hj1
              have hyd : O.getD (j - 1) lb0 = O[j - 1] := by simp [List.getD_eq_getElem?_getD, hj1]
              have hlf : Op.bytesLess x1.toList O[j - 1].1.toList = false := by
                cases hq : Op.bytesLess x1.toList O[j - 1].1.toList
                · rfl
                · exact absurd ⟨hj0, by rw [hyd]; exact hq⟩ hcont
              simp only [Nat.zero_add] at p0
              clear hyd hoc
              generalize O[j - 1] = y at *
              obtain ⟨y1, y2⟩ := y
              simp only at p0
              have jn : ((j : Int) - 1).toNat = j - 1 := by omega
              have jw : IntKind.i64.wrap ((j : Int) - 1) = (j : Int) - 1 := IntWalk.i64_in _ (by omega)
              have jj0 : (0 : Int) ≤ (j : Int) - 1 := by omega
              have jj1 : (j : Int) - 1 < (k : Int) := by omega
              have jj2 : (1 : Int) ≤ (j : Int) := by omega
              have jj3 : (0 : Int) < (j : Int) := by omega
              go_wp2_with fail
              go_quiet (fail)
              go_wp2_with fail
              have hWb := below_drewN hbel nq
              have hWo := own_drewN ho nq
              have d0 : (wr.drewN nq).cell? ⟨b, off + k * 2, none⟩ = some (.string x1) := c0'
              have d1 : (wr.drewN nq).cell? ⟨b, off + k * 2 + 1, none⟩ = some (.string x2) := c1'
              have hzW : w.heap.size ≤ (wr.drewN nq).heap.size := hWb.size
              generalize wr.drewN nq = W0 at *
              clear c0' c1' ho hbel hL
              have hbW : b < W0.heap.size := (lt_of_cell d0).1
              have B1 := below_newd W0 (.cells #[] IT0)
              have f0 := (B1.cell (p := ⟨b, off + k * 2, none⟩) hbW).trans d0
              have f1 := (B1.cell (p := ⟨b, off + k * 2 + 1, none⟩) hbW).trans d1
              have B1x := below_new W0 (.cells #[.string x1, .string x2] IT0)
              have B2 : Below W0.heap.size W0 ((W0.alloc (.cells #[] IT0)).alloc (.cells #[.string x1, .string x2] IT0)).drew := (B1.alloc (by simp) _)
              have B3 : Below W0.heap.size W0 ((W0.alloc (.cells #[.string x1, .string x2] IT0)).alloc (.cells #[] IT0)).drew := (B1x.alloc (by simp) _).drew
              have E1 : (W0.alloc (.cells #[] IT0)).drew.ownsRow W0.heap.size IT0 2 (.slice (some ⟨W0.heap.size, 0, none⟩) 0 0) 0 [] := own_drew (own_empty W0 IT0 2)
              have E2 : ((W0.alloc (.cells #[] IT0)).alloc (.cells #[.string x1, .string x2] IT0)).drew.ownsRow W0.heap.size IT0 2 (.slice (some ⟨W0.heap.size, 0, none⟩) 0 0) 0 [] := own_drew (own_alloc (own_empty W0 IT0 2) (.cells #[.string x1, .string x2] IT0))
              have E3 : ((W0.alloc (.cells #[.string x1, .string x2] IT0)).alloc (.cells #[] IT0)).drew.ownsRow W0.heap.size IT0 2 (.slice (some ⟨W0.heap.size + 1, 0, none⟩) 0 0) 0 [] := by
                have := own_base (own_empty (W0.alloc (.cells #[.string x1, .string x2] IT0)) IT0 2) (base' := W0.heap.size) (by simp)
                have := own_drew this
                simpa using this
              have X2 : Blk ((W0.alloc (.cells #[] IT0)).alloc (.cells #[.string x1, .string x2] IT0)).drew (W0.heap.size + 1) [.string x1, .string x2] IT0 := by
                have := (Blk.new (W0.alloc (.cells #[] IT0)) [.string x1, .string x2] IT0).drew
                simpa using this
              have X3 := ((Blk.new W0 [.string x1, .string x2] IT0).alloc (.cells #[] IT0)).drew
              have hLW : LsB W0 W0.heap.size (.slice (some ⟨g, 0, none⟩) k zc) O := Ls.own hWo
              have S1 : ∀ w', Below W0.heap.size W0 w' → LsB w' W0.heap.size (.slice (some ⟨g, 0, none⟩) j zc) (O.take j) := fun w' hb' => (hLW.take (by omega)).below hb' (Nat.le_refl _)
              have S2 : ∀ w', Below W0.heap.size W0 w' → LsB w' W0.heap.size (.slice (if zc = j then some ⟨g, 0, none⟩ else some ⟨g, j * 2, none⟩) (k - j) (zc - j)) (O.drop j) := fun w' hb' => (hLW.drop (by omega) (fun b' off' e hlt' => by cases e; rw [if_neg (by omega), Nat.zero_add])).below hb' (Nat.le_refl _)
              have Z1 : W0.heap.size ≤ (W0.alloc (.cells #[] IT0)).drew.heap.size := by simp <;> omega
              have Z2 : W0.heap.size ≤ ((W0.alloc (.cells #[] IT0)).alloc (.cells #[.string x1, .string x2] IT0)).drew.heap.size := by simp <;> omega
              have Z3 : W0.heap.size ≤ ((W0.alloc (.cells #[.string x1, .string x2] IT0)).alloc (.cells #[] IT0)).drew.heap.size := by simp <;> omega
              have n1 : 0 + (O.take j).length = j ∧ j ≤ 2147483648 ∧ lcells (O.take j) = [] ++ lcells (O.take j) := ⟨by rw [List.length_take]; omega, by omega, rfl⟩
              have n2 : j + [(x1, x2)].length = j + 1 ∧ j + 1 ≤ 2147483648 ∧ lcells (O.take j) ++ lcells [(x1, x2)] = lcells (O.take j) ++ lcells [(x1, x2)] := ⟨rfl, by omega, rfl⟩
              have n3 : j + 1 + (O.drop j).length = k + 1 ∧ k + 1 ≤ 2147483648 ∧ lcells (ins O (x1, x2)) = lcells (O.take j) ++ lcells [(x1, x2)] ++ lcells (O.drop j) := ⟨by rw [List.length_drop]; omega, by omega, HI.out.symm⟩
              have N2 : ¬ some (W0.heap.size + 1) = (Value.slice (some ⟨W0.heap.size, 0, none⟩) 0 0).ownBlock := by simp [Value.ownBlock]
              have N3 : ¬ some W0.heap.size = (Value.slice (some ⟨W0.heap.size + 1, 0, none⟩) 0 0).ownBlock := by simp [Value.ownBlock]
              go_region_law (first
                | (refine step_ls rfl (.tmp 32) (.tmp 35) rfl rfl rfl rfl W0.heap.size 0 [] W0.heap.size (O.take j) j (lcells (O.take j)) ?_ ?_ n1 ?_ ?_; (first | exact E1 | exact E2 | exact E3); (first | exact S1 _ B1 | exact S1 _ B2 | exact S1 _ B3); (first | exact Z1 | exact Z2 | exact Z3); intro v2 w2 ho2 hg2; obtain ⟨va2, vc2, rfl⟩ := own_form ho2; (first | (have hb2 := B1.grown hg2 Z1 (fun q hq => (E1.lt q hq).1); have hx2 := Blk.new w2 [.string x1, .string x2] IT0; have hs2 := LsB.ofBlk hx2; have hq2 := own_alloc ho2 (.cells #[.string x1, .string x2] IT0); have hB2 := hb2.alloc hb2.size (.cells #[.string x1, .string x2] IT0)) | (have hb2 := B2.grown hg2 Z2 (fun q hq => (E2.lt q hq).1); have hx2 := X2.chg (Chg.ofGrown hg2) N2; have hs2 := LsB.ofBlk hx2; have hq2 := ho2; have hB2 := hb2) | (have hb2 := B3.grown hg2 Z3 (fun q hq => (E3.lt q hq).1); have hx2 := X3.chg (Chg.ofGrown hg2) N3; have hs2 := LsB.ofBlk hx2; have hq2 := ho2; have hB2 := hb2)); have g0 := (hb2.cell (p := ⟨b, off + k * 2, none⟩) hbW).trans d0; have g1 := (hb2.cell (p := ⟨b, off + k * 2 + 1, none⟩) hbW).trans d1)
                | (refine step_ls rfl (.tmp 36) (.tmp 41) rfl rfl rfl rfl W0.heap.size j (lcells (O.take j)) _ [(x1, x2)] (j + 1) (lcells (O.take j) ++ lcells [(x1, x2)]) hq2 hs2 n2 hB2.size ?_; intro v4 w4 ho4 hg4; obtain ⟨va4, vc4, rfl⟩ := own_form ho4; have hb4 := hB2.grown hg4 hB2.size (fun q hq => (hq2.lt q hq).1))
                | (refine step_ls rfl (.tmp 42) (.tmp 45) rfl rfl rfl rfl W0.heap.size (j + 1) (lcells (O.take j) ++ lcells [(x1, x2)]) W0.heap.size (O.drop j) (k + 1) (lcells (ins O (x1, x2))) ho4 (S2 _ hb4) n3 hb4.size ?_; intro v6 w6 ho6 hg6; obtain ⟨va6, vc6, rfl⟩ := own_form ho6; have hb6 := hb4.grown hg6 hb4.size (fun q hq => (ho4.lt q hq).1))
                | fail)
              all_goals (have HO := Lib.hid (own_base ho6 hzW); have HB := Lib.hid (hWb.trans (hb6.mono hzW)); clear E1 E2 E3 X2 X3 S1 S2 Z1 Z2 Z3 n1 n2 n3 N2 N3 B1 B1x B2 B3 f0 f1 d0 d1 hLW ho2 hg2 hb2 hs2 hq2 hB2 hx2 g0 g1 ho4 hg4 hb4 ho6 hg6 hb6 hWo hWb hbW hzW; go_wp2_with fail; go_roundw; (case rel => exact ⟨k + 1, by omega, by go_num, by rw [HN.out]; exact HO.out, HB.out⟩); (case measure => simp [intOf]; omega))
    · obtain rfl : k = l.length := by omega
      rw [List.take_length] at ho
      go_wp2_with fail
      go_ret
      exact ⟨_, rfl, ho, hbel⟩
end Go.Proofs.YtapoodnjkkhggaaGreat
