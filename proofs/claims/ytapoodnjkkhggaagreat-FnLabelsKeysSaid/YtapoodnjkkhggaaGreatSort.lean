/-
  The library's insertion sort of labels.
-/
import Derived.Test.YtapoodnjkkhggaaGreatCmp
import Derived.BigQuiet
import Derived.Deep.Cut
import Derived.Deep.RegionHeld3
import Derived.BigRegion
namespace Go.Proofs.YtapoodnjkkhggaaGreat
set_option linter.unusedSimpArgs false
set_option linter.unusedVariables false
open Go.RowKit

/-- a row of labels -/
def LRow (w : World) (g : Nat) (l : List Lb) (r : List Value) : Prop := Blk w g (lcells l ++ r) LT
theorem LRow.at_ {w : World} {g : Nat} {l : List Lb} {r : List Value} (h : LRow w g l r) (k : Nat) (hk : k < l.length) : w.cell? ⟨g, k * 2, none⟩ = some (.string l[k].1) ∧ w.cell? ⟨g, k * 2 + 1, none⟩ = some (.string l[k].2) := by
  obtain ⟨h1, h2⟩ := lcells_at l k hk
  have e := lcells_length l
  refine ⟨?_, ?_⟩
  · rw [Blk.cell h, List.getElem?_append_left (by omega)]; exact h1
  · rw [Blk.cell h, List.getElem?_append_left (by omega)]; exact h2
theorem lcells_set (A B : List Lb) (x y : Lb) (r : List Value) : ((lcells (A ++ x :: B) ++ r).set (A.length * 2) (.string y.1)).set (A.length * 2 + 1) (.string y.2) = lcells (A ++ y :: B) ++ r := by
  have e := lcells_length A
  rw [lcells_append, lcells_append, lcells_cons, lcells_cons, List.append_assoc, List.append_assoc]
  rw [List.set_append_right _ _ (by omega), List.set_append_right _ _ (by omega)]
  rw [show A.length * 2 - (lcells A).length = 0 by omega, show A.length * 2 + 1 - (lcells A).length = 1 by omega]
  rfl
theorem LRow.set {w : World} {g : Nat} {A B : List Lb} {x : Lb} {r : List Value} (h : LRow w g (A ++ x :: B) r) (y : Lb) {k : Nat} (hk : k = A.length) : LRow ((w.setCell ⟨g, k * 2, none⟩ (.string y.1)).setCell ⟨g, k * 2 + 1, none⟩ (.string y.2)) g (A ++ y :: B) r := by
  subst hk
  have := (Blk.set h (A.length * 2) (.string y.1)).set (A.length * 2 + 1) (.string y.2)
  rw [lcells_set] at this
  exact this

theorem sort_next {l : List Lb} {k : Nat} (hk : k < l.length) : sortL (l.take (k + 1)) = ins (sortL (l.take k)) l[k] := by rw [take_next hk, sortL_snoc]
set_option maxRecDepth 100000 in
set_option maxHeartbeats 4000000 in
theorem insSort_any (g n cap : Nat) (l : List Lb) (r : List Value) (f : FuncId) (w : World) (hR : LRow w g l r) (hn : n = l.length) (hl : l.length ≤ 1000) (hc : n ≤ cap) (hF : Cmps f) :
    Calls Tryz.prog 157 #[.slice (some ⟨g, 0, none⟩) n cap, .int .i64 0, .int .i64 n, .func (.func f) #[] #[]] w fun e w' => e = .returned (.tuple #[]) ∧ LRow w' g (sortL l) r ∧ Chg (fun q => q = g) w w' := by
  subst hn
  have hE := hF.1
  go_enter Tryz.func157, Tryz.ntmps157
  go_wp2_with fail
  go_loopw [8] (fun i wr => ∃ k : Nat, i = .int .i64 k ∧ ((k = 1 ∧ Hid (l = []) ∧ LRow wr g [] r) ∨ (1 ≤ k ∧ k ≤ l.length ∧ LRow wr g (sortL (l.take k) ++ l.drop k) r)) ∧ Chg (fun q => q = g) w wr) (fun i _ => l.length - (intOf i).toNat)
  case atStart =>
    refine ⟨1, rfl, ?_, Chg.refl _ _⟩
    cases l with
    | nil => exact .inl ⟨rfl, Lib.hid rfl, hR⟩
    | cons x l => exact .inr ⟨Nat.le_refl _, Nat.succ_pos _, hR⟩
  case round => as_aux_lemma =>
    obtain ⟨k, rfl, hrow, hch⟩ := hrel
    rcases hrow with ⟨rfl, hl0, hrow⟩ | ⟨hk1, hk, hrow⟩
    · have : ¬ (1 : Int) < (l.length : Int) := by rw [hl0.out]; decide
      go_wp2_with fail
      go_end0
      refine ⟨rfl, ?_, hch⟩
      rw [hl0.out]
      exact hrow
    · by_cases hlt : k < l.length
      · have i1 : (k : Int) < (l.length : Int) := by omega
        have hO : (sortL (l.take k)).length = k := by rw [sortL_length, List.length_take]; omega
        have HN := Lib.hid (sort_next hlt)
        have hd : l.drop k = l[k] :: l.drop (k + 1) := List.drop_eq_getElem_cons hlt
        have hDl : (l.drop (k + 1)).length = l.length - (k + 1) := List.length_drop
        rw [hd] at hrow
        have HT := Lib.hid (show ∀ a b, a = sortL (l.take (k + 1)) ++ l.drop (k + 1) → b = a → b = sortL (l.take (k + 1)) ++ l.drop (k + 1) from fun a b h1 h2 => h2.trans h1)
        generalize hOe : sortL (l.take k) = O at *
        generalize l[k] = x at *
        generalize hDe : l.drop (k + 1) = D at *
        clear hd HT hOe
        go_wp2_with fail
        go_loopw [9] (fun jv wi => ∃ j : Nat, j ≤ k ∧ jv = .int .i64 j ∧ LRow wi g (O.take j ++ x :: (O.drop j ++ D)) r ∧ Hid (posR x O k = posR x O j) ∧ Chg (fun q => q = g) w wi) (fun jv _ => (intOf jv).toNat)
        case atStart => exact ⟨k, Nat.le_refl _, rfl, by rw [← hO, List.take_length, List.drop_length]; exact hrow, Lib.hid rfl, hch⟩
        case round => as_aux_lemma =>
          clear hrow hch
          obtain ⟨j, hj, rfl, hrow, hpos, hch⟩ := hrel
          have done : posR x O k = j → LRow wr g (ins O x ++ D) r := fun e => by
            unfold ins
            rw [hO, e]
            simpa using hrow
          rcases Nat.eq_zero_or_pos j with rfl | hj0
          · have hrow' := done hpos.out
            rw [← HN.out, ← hDe] at hrow'
            go_wp2_with fail
            go_quiet (fail)
            go_wp2_with fail
            go_roundw
            case rel => exact ⟨k + 1, by go_num, .inr ⟨by omega, by omega, hrow'⟩, hch.drewN _⟩
            case measure => simp [intOf]; omega
          · obtain ⟨m, rfl⟩ : ∃ m, j = m + 1 := ⟨j - 1, by omega⟩
            have hmO : m < O.length := by omega
            have hx := hrow.at_ (m + 1) (by simp; omega)
            have hy := hrow.at_ m (by simp; omega)
            have ex : (O.take (m + 1) ++ x :: (O.drop (m + 1) ++ D))[m + 1]'(by simp; omega) = x := by
              rw [List.getElem_append_right (by simp; omega)]; simp [Nat.min_eq_left (show m + 1 ≤ O.length by omega)]
            have ey : (O.take (m + 1) ++ x :: (O.drop (m + 1) ++ D))[m]'(by simp; omega) = O[m] := by
              rw [List.getElem_append_left (by simp; omega)]; simp
            rw [ex] at hx
            rw [ey] at hy
            have hyd : O.getD m lb0 = O[m] := by simp [List.getD_eq_getElem?_getD, hmO]
            have hpm : posR x O (m + 1) = if lt x.1 O[m].1 then posR x O m else m + 1 := by rw [posR, hyd]
            obtain ⟨f1, f2⟩ := swap_form O x D m hmO
            have HP := Lib.hid hpm
            have HF1 := Lib.hid f1
            have HF2 := Lib.hid f2
            clear hpm f1 f2 ex ey hyd
            generalize O[m] = y at *
            obtain ⟨j, hjm⟩ : ∃ j, j = m + 1 := ⟨_, rfl⟩
            have hmj : m = j - 1 := by omega
            have HJ := Lib.hid hjm
            rw [← hjm] at hx hj hj0 hrow done hpos
            rw [hmj] at hy
            rw [← hjm]
            have j0 : (0 : Int) < (j : Int) := by omega
            have j1 : (j : Int) < (l.length : Int) := by omega
            have j2 : (j : Int) - 1 < (l.length : Int) := by omega
            have j4 : (1 : Int) ≤ (j : Int) := by omega
            have jn : ((j : Int) - 1).toNat = j - 1 := by omega
            have jw : IntKind.i64.wrap ((j : Int) - 1) = (j : Int) - 1 := IntWalk.i64_in _ (by omega)
            clear hjm hmj
            obtain ⟨x1, x2⟩ := x
            obtain ⟨y1, y2⟩ := y
            obtain ⟨hx0, hx1⟩ := hx
            obtain ⟨hy0, hy1⟩ := hy
            simp only at hx0 hx1 hy0 hy1
            have hS : wr.drew.cell? ⟨g, j * 2, none⟩ = some (.string x1) ∧ wr.drew.cell? ⟨g, j * 2 + 1, none⟩ = some (.string x2) ∧ wr.drew.cell? ⟨g, (j - 1) * 2, none⟩ = some (.string y1) ∧ wr.drew.cell? ⟨g, (j - 1) * 2 + 1, none⟩ = some (.string y2) := ⟨hx0, hx1, hy0, hy1⟩
            have jj0 : (0 : Int) ≤ (j : Int) := by omega
            have jj1 : (0 : Int) ≤ (j : Int) - 1 := by omega
            have hcall : ∀ w, Calls Tryz.prog f #[.agg #[.string x1, .string x2], .agg #[.string y1, .string y2]] w fun e w' => ∃ z : Int, e = .returned (.int .i64 z) ∧ decide (z < 0) = lt x1 y1 ∧ Below w.heap.size w w' := fun w => hF.2 (x1, x2) (y1, y2) w
            go_upto_region 4 with fail
            go_region_held3 (fun w' => w'.cell? ⟨g, j * 2, none⟩ = some (.string x1) ∧ w'.cell? ⟨g, j * 2 + 1, none⟩ = some (.string x2) ∧ w'.cell? ⟨g, (j - 1) * 2, none⟩ = some (.string y1) ∧ w'.cell? ⟨g, (j - 1) * 2 + 1, none⟩ = some (.string y2)) (first | (with_reducible exact hS) | (with_reducible exact hS1) | fail) (first
              | ((with_reducible refine (hcall _).mono ?_); rintro e w1 ⟨z, rfl, hz, hb1⟩; have hS1 : w1.cell? ⟨g, j * 2, none⟩ = some (.string x1) ∧ w1.cell? ⟨g, j * 2 + 1, none⟩ = some (.string x2) ∧ w1.cell? ⟨g, (j - 1) * 2, none⟩ = some (.string y1) ∧ w1.cell? ⟨g, (j - 1) * 2 + 1, none⟩ = some (.string y2) := ⟨(hb1.cell (lt_of_cell hS.1).1).trans hS.1, (hb1.cell (lt_of_cell hS.2.1).1).trans hS.2.1, (hb1.cell (lt_of_cell hS.2.2.1).1).trans hS.2.2.1, (hb1.cell (lt_of_cell hS.2.2.2).1).trans hS.2.2.2⟩)
              | fail)
            have hch1 : Chg (fun q => q = g) w w1 := hch.drew.calls hb1
            have hltg := Blk.lt hrow
            have hrow1 : LRow w1 g (O.take j ++ (x1, x2) :: (O.drop j ++ D)) r := Blk.chg (Blk.drew hrow) (Chg.ofBelow hb1) (fun c => by have : wr.heap.size ≤ g := c; omega)
            have hjO : j = (O.take j).length := by rw [List.length_take, hO]; omega
            have hmO' : j - 1 = (O.take m).length := by rw [List.length_take, hO]; have := HJ.out; omega
            obtain ⟨s0, s1, s2, s3⟩ := hS1
            clear hS hcall hrow hch hb1
            cases hlx : lt x1 y1
            · have hpp : posR (x1, x2) O k = j := by rw [hpos.out, HJ.out, HP.out, hlx, ← HJ.out]; rfl
              have hrow' : LRow w1 g (ins O (x1, x2) ++ D) r := by
                unfold ins
                rw [hO, hpp]
                simpa using hrow1
              rw [← HN.out, ← hDe] at hrow'
              clear hpp
              go_wp2_with fail
              go_roundw
              case rel => exact ⟨k + 1, by go_num, .inr ⟨by omega, by omega, hrow'⟩, hch1⟩
              case measure => simp [intOf]; omega
            · have hA : LRow w1 g (O.take m ++ (y1, y2) :: (x1, x2) :: (O.drop j ++ D)) r := by
                have := HF1.out
                rw [← HJ.out] at this
                rw [← this]; exact hrow1
              have e1 : O.take m ++ (y1, y2) :: (x1, x2) :: (O.drop j ++ D) = (O.take m ++ [(y1, y2)]) ++ (x1, x2) :: (O.drop j ++ D) := by simp
              have e2 : (O.take m ++ [(y1, y2)]) ++ (y1, y2) :: (O.drop j ++ D) = O.take m ++ (y1, y2) :: (y1, y2) :: (O.drop j ++ D) := by simp
              have hA' := hA
              rw [e1] at hA'
              have hB := LRow.set hA' (y1, y2) (k := j) (by have := HJ.out; simp only [List.length_append, List.length_singleton]; omega)
              rw [e2] at hB
              have hC := LRow.set hB (x1, x2) (k := j - 1) hmO'
              have HPP := Lib.hid (show posR (x1, x2) O k = posR (x1, x2) O (j - 1) by rw [hpos.out, HJ.out, HP.out, hlx]; rfl)
              have hl1 : (O.take m ++ (y1, y2) :: (x1, x2) :: (O.drop j ++ D)).length = l.length := by
                simp only [List.length_append, List.length_cons, List.length_take, List.length_drop]
                have := HJ.out
                omega
              obtain ⟨q1, q2, p2, p3⟩ : ∃ q1 q2, ((w1.setCell ⟨g, j * 2, none⟩ (.string y1)).setCell ⟨g, j * 2 + 1, none⟩ (.string y2)).cell? ⟨g, (j - 1) * 2, none⟩ = some (.string q1) ∧ ((w1.setCell ⟨g, j * 2, none⟩ (.string y1)).setCell ⟨g, j * 2 + 1, none⟩ (.string y2)).cell? ⟨g, (j - 1) * 2 + 1, none⟩ = some (.string q2) :=
                ⟨_, _, hB.at_ (j - 1) (by have e : (O.take m ++ (y1, y2) :: (y1, y2) :: (O.drop j ++ D)).length = (O.take m ++ (y1, y2) :: (x1, x2) :: (O.drop j ++ D)).length := by simp
                                          rw [e, hl1]; omega)⟩
              have z0 := Blk.free hrow1 (j * 2)
              have z1 := Blk.free hrow1 (j * 2 + 1)
              have z2 := Blk.free hrow1 ((j - 1) * 2)
              have z3 := Blk.free hrow1 ((j - 1) * 2 + 1)
              have hC' := Chg.setCell (S := fun q => q = g) (Chg.setCell (S := fun q => q = g) (Chg.setCell (S := fun q => q = g) (Chg.setCell (S := fun q => q = g) hch1 ⟨g, j * 2, none⟩ rfl (.string y1)) ⟨g, j * 2 + 1, none⟩ rfl (.string y2)) ⟨g, (j - 1) * 2, none⟩ rfl (.string x1)) ⟨g, (j - 1) * 2 + 1, none⟩ rfl (.string x2)
              have HC := Lib.hid hC
              have HC' := Lib.hid hC'
              clear hA hA' hB e1 e2 hrow1 hl1 hjO hmO' hC hC' hch1 hO hDl hlx hpos HP HF1 done j4
              go_upto_region 6 with fail
              go_region
              go_wp2_with fail
              go_roundw
              case rel =>
                refine ⟨j - 1, by omega, by go_num, ?_, HPP, HC'.out.drew⟩
                have h2 := HF2.out
                rw [show m = j - 1 by have := HJ.out; omega, show j - 1 + 1 = j by omega] at h2
                have h3 := HC.out
                rw [show m = j - 1 by have := HJ.out; omega] at h3
                rw [h2]
                exact Blk.drew h3
              case measure => simp [intOf]; omega
      · obtain rfl : k = l.length := by omega
        go_wp2_with fail
        go_end0
        refine ⟨rfl, ?_, hch⟩
        rw [List.take_length, List.drop_length, List.append_nil] at hrow
        exact hrow
end Go.Proofs.YtapoodnjkkhggaaGreat
