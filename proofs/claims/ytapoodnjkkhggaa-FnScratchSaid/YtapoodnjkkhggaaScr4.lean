/-
  impl.ScratchRun (printed by gen_scr4.py).
-/
import Derived.Test.YtapoodnjkkhggaaScr3
import Derived.Test.YtapoodnjkkhggaaUnm
namespace Go.Proofs.Ytapoodnjkkhggaa
set_option linter.unusedSimpArgs false
set_option linter.unusedVariables false
open Go.RowKit

theorem scr_below {w a b : World} {S base : Nat} (h : Below w.heap.size w a) (hS : w.heap.size ≤ S) (hb : base = w.heap.size) (hc : Chg (fun q => q = S ∨ LtB a base q) a b) : Below w.heap.size w b :=
  h.trans (hc.below w.heap.size h.size (fun k hk c => by rcases c with rfl | ⟨c, _⟩ <;> omega))
theorem chg_S {S base : Nat} {a b w : World} (h : Chg (fun q => q = S) a b) : Chg (fun q => q = S ∨ LtB w base q) a b := h.mono (fun q hq => .inl hq)
theorem chg_L {S base : Nat} {a b w : World} (h : Chg (fun q => LtB w base q) a b) : Chg (fun q => q = S ∨ LtB w base q) a b := h.mono (fun q hq => .inr hq)
theorem own_up {w a b : World} {n : Nat} {x : Value} {t : TypeId} {xs : List Value} (h : Below w.heap.size w a) (hx : b.ownsRow a.heap.size t 2 x n xs) : b.ownsRow w.heap.size t 2 x n xs := own_base hx h.size
theorem own_low {a b : World} {base n : Nat} {x : Value} {t : TypeId} {xs : List Value} (hx : a.ownsRow base t 2 x n xs) (h : Below a.heap.size a b) : b.ownsRow base t 2 x n xs := own_below hx h (fun g hg => (hx.lt g hg).2)

set_option maxRecDepth 100000 in
set_option maxHeartbeats 8000000 in
theorem scrRun_tt (va : Value) (l : List Lb) (vb : Value) (m : List Lb) (w : World) (h : Ls w va l) (g : Ls w vb m) (hl : l.length ≤ 12) (hm : m.length ≤ 12) (hf : FitL l) (hg : FitL m) :
    Calls Try.prog 19 #[va, vb, .bool true, .bool true] w fun e w' => ∃ x y, e = .returned (.tuple #[x, y]) ∧ w'.ownsRow w.heap.size ILT 2 x l.length (lcells (sortL l)) ∧ w'.ownsRow w.heap.size ILT 2 y m.length (lcells (sortL m)) ∧ Below w.heap.size w w' := by
  obtain ⟨ao, cap, rfl, h1, h2⟩ := h.form
  obtain ⟨bo, bcap, rfl, g1, g2⟩ := g.form
  go_enter Try.func19, Try.ntmps19
  go_wp2_with fail
  refine (newScr_any _).mono ?_
  rintro e w1 ⟨sv, rfl, hO1, hb1⟩
  obtain ⟨sa, sc, rfl⟩ := own_form hO1
  have hS0 : Scr (w1.alloc (.cells #[.slice sa 0 sc, .string ⟨#[]⟩, .slice none 0 0] SBT)) w1.heap.size w.heap.size (l.take 0) ⟨#[]⟩ := ⟨_, Blk.new w1 _ SBT, own_alloc hO1 _, Nat.le_trans hb1.size (by simp)⟩
  have hbS := hb1.alloc hb1.size (.cells #[.slice sa 0 sc, .string ⟨#[]⟩, .slice none 0 0] SBT)
  go_wp2_with fail
  go_loopw [19] (fun i wr => ∃ k : Nat, k ≤ l.length ∧ i = .int .i64 k ∧ Scr wr w1.heap.size w.heap.size (l.take k) ⟨#[]⟩ ∧ Below w.heap.size w wr) (fun i _ => l.length - (intOf i).toNat)
  case atStart => exact ⟨0, Nat.zero_le _, rfl, hS0, hbS⟩
  case round =>
    obtain ⟨k, hk, rfl, hS, hbel⟩ := hrel
    clear hS0 hbS
    by_cases hlt : k < l.length
    · obtain ⟨b, off, rfl, hb, hc⟩ := h.at_ (by omega)
      obtain ⟨c0, c1⟩ := hc k hlt
      have c0' := (hbel.cell (p := ⟨b, off + k * 2, none⟩) hb).trans c0
      have c1' := (hbel.cell (p := ⟨b, off + k * 2 + 1, none⟩) hb).trans c1
      have hT := Lib.hid (take_next hlt)
      clear c0 c1 hc
      generalize l[k] = x at *
      obtain ⟨x1, x2⟩ := x
      simp only at c0' c1'
      have i1 : (k : Int) < (l.length : Int) := by omega
      have hX := Scr.low hS (below_new wr (.cells #[.string x1, .string x2] ILT))
      have hbX := hbel.alloc hbel.size (.cells #[.string x1, .string x2] ILT)
      have hA := scrAdd_any _ _ _ _ x1 x2 _ hX (by rw [List.length_take]; omega)
      go_wp2_with fail
      (with_reducible refine hA.mono ?_)
      rintro e w5 ⟨rfl, hS5, hc5⟩
      have hb5 := scr_below hbX hb1.size rfl hc5
      go_wp2_with fail
      go_roundw
      case rel => exact ⟨k + 1, by omega, by go_num, by rw [hT.out]; exact hS5, hb5⟩
      case measure => simp [intOf]; omega
    · obtain rfl : k = l.length := by omega
      rw [List.take_length] at hS
      have hSo := scrSort_any _ _ _ _ _ hS (by omega)
      go_wp2_with fail
      (with_reducible refine hSo.mono ?_)
      rintro e wa ⟨rfl, hSa, hca⟩
      have hba := scr_below hbel hb1.size rfl (chg_L hca)
      have hLa := scrLabels_any _ _ _ _ hSa (by rw [sortL_length]; omega) (hf.sort)
      go_wp2_with fail
      (with_reducible refine hLa.mono ?_)
      rintro e wb ⟨rfl, hSb, hcb⟩
      have hbb := scr_below hba hb1.size rfl (chg_S hcb)
      have hU := unmade_any (sortL l) wb (by rw [sortL_length]; omega) (hf.sort) (by rw [encL_length]; have := lbsN_le (hf.sort); rw [sortL_length] at this; omega)
      go_wp2_with fail
      (with_reducible refine hU.mono ?_)
      rintro e wc ⟨x, rfl, hx, hbc⟩
      have hx := own_up hbb hx
      have hSc := Scr.low hSb hbc
      have hbcc := bnx hbb hbc
      rw [sortL_length] at hx
      obtain ⟨xa, xc, rfl⟩ := own_form hx
      have hRe := scrReset_any _ _ _ _ _ hSc
      go_wp2_with fail
      (with_reducible refine hRe.mono ?_)
      rintro e wd ⟨rfl, hSd, hcd⟩
      have hxd := x_chg hx hSc (chg_S hcd)
      have hbd := scr_below hbcc hb1.size rfl (chg_S hcd)
      go_wp2_with fail
      go_loopw [36] (fun i wr => ∃ k : Nat, k ≤ m.length ∧ i = .int .i64 k ∧ Scr wr w1.heap.size w.heap.size (m.take k) ⟨#[]⟩ ∧ wr.ownsRow w.heap.size ILT 2 (.slice xa l.length xc) l.length (lcells (sortL l)) ∧ Below w.heap.size w wr) (fun i _ => m.length - (intOf i).toNat)
      case atStart => exact ⟨0, Nat.zero_le _, rfl, hSd, hxd, hbd⟩
      case round =>
        obtain ⟨k, hk, rfl, hS, hx, hbel⟩ := hrel
        by_cases hlt : k < m.length
        · obtain ⟨b, off, rfl, hb, hc⟩ := g.at_ (by omega)
          obtain ⟨c0, c1⟩ := hc k hlt
          have c0' := (hbel.cell (p := ⟨b, off + k * 2, none⟩) hb).trans c0
          have c1' := (hbel.cell (p := ⟨b, off + k * 2 + 1, none⟩) hb).trans c1
          have hT := Lib.hid (take_next hlt)
          clear c0 c1 hc
          generalize m[k] = z at *
          obtain ⟨x1, x2⟩ := z
          simp only at c0' c1'
          have i1 : (k : Int) < (m.length : Int) := by omega
          have hX := Scr.low hS (below_new wr (.cells #[.string x1, .string x2] ILT))
          have hbX := hbel.alloc hbel.size (.cells #[.string x1, .string x2] ILT)
          have hxX := own_alloc hx (.cells #[.string x1, .string x2] ILT)
          have hA := scrAdd_any _ _ _ _ x1 x2 _ hX (by rw [List.length_take]; omega)
          go_wp2_with fail
          (with_reducible refine hA.mono ?_)
          rintro e w5 ⟨rfl, hS5, hc5⟩
          have hb5 := scr_below hbX hb1.size rfl hc5
          have hx5 := x_chg hxX hX hc5
          go_wp2_with fail
          go_roundw
          case rel => exact ⟨k + 1, by omega, by go_num, by rw [hT.out]; exact hS5, hx5, hb5⟩
          case measure => simp [intOf]; omega
        · obtain rfl : k = m.length := by omega
          rw [List.take_length] at hS
          have hSo := scrSort_any _ _ _ _ _ hS (by omega)
          go_wp2_with fail
          (with_reducible refine hSo.mono ?_)
          rintro e wa ⟨rfl, hSa, hca⟩
          have hba := scr_below hbel hb1.size rfl (chg_L hca)
          have hx := x_chg hx hS (chg_L hca)
          have hL0 := Blk.new wa [.string ⟨#[]⟩] LST
          have hSL := Scr.low hSa (below_new _ (.cells #[.string ⟨#[]⟩] LST))
          have hbL := hba.alloc hba.size (.cells #[.string ⟨#[]⟩] LST)
          have hxL := own_alloc hx (.cells #[.string ⟨#[]⟩] LST)
          have hsL := hba.size
          have hOv := scrOver_any _ _ _ _ _ _ _ hSL hL0 (by rw [sortL_length]; omega) (hg.sort)
          go_wp2_with fail
          (with_reducible refine hOv.mono ?_)
          rintro e wh ⟨rfl, hLh, hch⟩
          have hbh : Below w.heap.size w wh := hbL.trans (hch.below w.heap.size hbL.size (fun k hk c => by have := hb1.size; rcases c with rfl | rfl <;> omega))
          have hxh := own_chg hxL hch (fun q _ ho c => by
            rcases c with c | c
            · exact (show q ≠ w1.heap.size from fun e => by
                have := x_chg hxL hSL (Chg.refl _ _)
                obtain ⟨v, hB, _, _⟩ := hSL
                obtain ⟨cs, hk⟩ := own_type hxL ho
                subst e
                have hh : (World.alloc _ _).heap[w1.heap.size]? = _ := hB
                rw [hk] at hh
                exact absurd hh (by simp; intro _ c; exact absurd c (by decide))) c
            · have := (hx.lt q ho).2; omega)
          have l0 := hLh.cell 0
          simp only [List.getElem?_cons_zero] at l0
          have hU := unmade_any (sortL m) wh (by rw [sortL_length]; omega) (hg.sort) (by rw [encL_length]; have := lbsN_le (hg.sort); rw [sortL_length] at this; omega)
          unfold lbsV at hU
          go_wp2_with fail
          (with_reducible refine hU.mono ?_)
          rintro e wi ⟨y, rfl, hy, hbi⟩
          have hy := own_up hbh hy
          have hxi := own_low hxh hbi
          have hbii := bnx hbh hbi
          rw [sortL_length] at hy
          obtain ⟨ya, yc, rfl⟩ := own_form hy
          go_wp2_with fail
          go_ret2
          exact ⟨_, _, rfl, hxi, hy, hbii⟩

set_option maxRecDepth 100000 in
set_option maxHeartbeats 8000000 in
theorem scrRun_tf (va : Value) (l : List Lb) (vb : Value) (m : List Lb) (w : World) (h : Ls w va l) (g : Ls w vb m) (hl : l.length ≤ 12) (hm : m.length ≤ 12) (hf : FitL l) (hg : FitL m) :
    Calls Try.prog 19 #[va, vb, .bool true, .bool false] w fun e w' => ∃ x y, e = .returned (.tuple #[x, y]) ∧ w'.ownsRow w.heap.size ILT 2 x l.length (lcells (sortL l)) ∧ w'.ownsRow w.heap.size ILT 2 y m.length (lcells (sortL m)) ∧ Below w.heap.size w w' := by
  obtain ⟨ao, cap, rfl, h1, h2⟩ := h.form
  obtain ⟨bo, bcap, rfl, g1, g2⟩ := g.form
  go_enter Try.func19, Try.ntmps19
  go_wp2_with fail
  refine (newScr_any _).mono ?_
  rintro e w1 ⟨sv, rfl, hO1, hb1⟩
  obtain ⟨sa, sc, rfl⟩ := own_form hO1
  have hS0 : Scr (w1.alloc (.cells #[.slice sa 0 sc, .string ⟨#[]⟩, .slice none 0 0] SBT)) w1.heap.size w.heap.size (l.take 0) ⟨#[]⟩ := ⟨_, Blk.new w1 _ SBT, own_alloc hO1 _, Nat.le_trans hb1.size (by simp)⟩
  have hbS := hb1.alloc hb1.size (.cells #[.slice sa 0 sc, .string ⟨#[]⟩, .slice none 0 0] SBT)
  go_wp2_with fail
  go_loopw [19] (fun i wr => ∃ k : Nat, k ≤ l.length ∧ i = .int .i64 k ∧ Scr wr w1.heap.size w.heap.size (l.take k) ⟨#[]⟩ ∧ Below w.heap.size w wr) (fun i _ => l.length - (intOf i).toNat)
  case atStart => exact ⟨0, Nat.zero_le _, rfl, hS0, hbS⟩
  case round =>
    obtain ⟨k, hk, rfl, hS, hbel⟩ := hrel
    clear hS0 hbS
    by_cases hlt : k < l.length
    · obtain ⟨b, off, rfl, hb, hc⟩ := h.at_ (by omega)
      obtain ⟨c0, c1⟩ := hc k hlt
      have c0' := (hbel.cell (p := ⟨b, off + k * 2, none⟩) hb).trans c0
      have c1' := (hbel.cell (p := ⟨b, off + k * 2 + 1, none⟩) hb).trans c1
      have hT := Lib.hid (take_next hlt)
      clear c0 c1 hc
      generalize l[k] = x at *
      obtain ⟨x1, x2⟩ := x
      simp only at c0' c1'
      have i1 : (k : Int) < (l.length : Int) := by omega
      have hX := Scr.low hS (below_new wr (.cells #[.string x1, .string x2] ILT))
      have hbX := hbel.alloc hbel.size (.cells #[.string x1, .string x2] ILT)
      have hA := scrAdd_any _ _ _ _ x1 x2 _ hX (by rw [List.length_take]; omega)
      go_wp2_with fail
      (with_reducible refine hA.mono ?_)
      rintro e w5 ⟨rfl, hS5, hc5⟩
      have hb5 := scr_below hbX hb1.size rfl hc5
      go_wp2_with fail
      go_roundw
      case rel => exact ⟨k + 1, by omega, by go_num, by rw [hT.out]; exact hS5, hb5⟩
      case measure => simp [intOf]; omega
    · obtain rfl : k = l.length := by omega
      rw [List.take_length] at hS
      have hSo := scrSort_any _ _ _ _ _ hS (by omega)
      go_wp2_with fail
      (with_reducible refine hSo.mono ?_)
      rintro e wa ⟨rfl, hSa, hca⟩
      have hba := scr_below hbel hb1.size rfl (chg_L hca)
      have hLa := scrLabels_any _ _ _ _ hSa (by rw [sortL_length]; omega) (hf.sort)
      go_wp2_with fail
      (with_reducible refine hLa.mono ?_)
      rintro e wb ⟨rfl, hSb, hcb⟩
      have hbb := scr_below hba hb1.size rfl (chg_S hcb)
      have hU := unmade_any (sortL l) wb (by rw [sortL_length]; omega) (hf.sort) (by rw [encL_length]; have := lbsN_le (hf.sort); rw [sortL_length] at this; omega)
      go_wp2_with fail
      (with_reducible refine hU.mono ?_)
      rintro e wc ⟨x, rfl, hx, hbc⟩
      have hx := own_up hbb hx
      have hSc := Scr.low hSb hbc
      have hbcc := bnx hbb hbc
      rw [sortL_length] at hx
      obtain ⟨xa, xc, rfl⟩ := own_form hx
      have hRe := scrReset_any _ _ _ _ _ hSc
      go_wp2_with fail
      (with_reducible refine hRe.mono ?_)
      rintro e wd ⟨rfl, hSd, hcd⟩
      have hxd := x_chg hx hSc (chg_S hcd)
      have hbd := scr_below hbcc hb1.size rfl (chg_S hcd)
      go_wp2_with fail
      go_loopw [36] (fun i wr => ∃ k : Nat, k ≤ m.length ∧ i = .int .i64 k ∧ Scr wr w1.heap.size w.heap.size (m.take k) ⟨#[]⟩ ∧ wr.ownsRow w.heap.size ILT 2 (.slice xa l.length xc) l.length (lcells (sortL l)) ∧ Below w.heap.size w wr) (fun i _ => m.length - (intOf i).toNat)
      case atStart => exact ⟨0, Nat.zero_le _, rfl, hSd, hxd, hbd⟩
      case round =>
        obtain ⟨k, hk, rfl, hS, hx, hbel⟩ := hrel
        by_cases hlt : k < m.length
        · obtain ⟨b, off, rfl, hb, hc⟩ := g.at_ (by omega)
          obtain ⟨c0, c1⟩ := hc k hlt
          have c0' := (hbel.cell (p := ⟨b, off + k * 2, none⟩) hb).trans c0
          have c1' := (hbel.cell (p := ⟨b, off + k * 2 + 1, none⟩) hb).trans c1
          have hT := Lib.hid (take_next hlt)
          clear c0 c1 hc
          generalize m[k] = z at *
          obtain ⟨x1, x2⟩ := z
          simp only at c0' c1'
          have i1 : (k : Int) < (m.length : Int) := by omega
          have hX := Scr.low hS (below_new wr (.cells #[.string x1, .string x2] ILT))
          have hbX := hbel.alloc hbel.size (.cells #[.string x1, .string x2] ILT)
          have hxX := own_alloc hx (.cells #[.string x1, .string x2] ILT)
          have hA := scrAdd_any _ _ _ _ x1 x2 _ hX (by rw [List.length_take]; omega)
          go_wp2_with fail
          (with_reducible refine hA.mono ?_)
          rintro e w5 ⟨rfl, hS5, hc5⟩
          have hb5 := scr_below hbX hb1.size rfl hc5
          have hx5 := x_chg hxX hX hc5
          go_wp2_with fail
          go_roundw
          case rel => exact ⟨k + 1, by omega, by go_num, by rw [hT.out]; exact hS5, hx5, hb5⟩
          case measure => simp [intOf]; omega
        · obtain rfl : k = m.length := by omega
          rw [List.take_length] at hS
          have hSo := scrSort_any _ _ _ _ _ hS (by omega)
          go_wp2_with fail
          (with_reducible refine hSo.mono ?_)
          rintro e wa ⟨rfl, hSa, hca⟩
          have hba := scr_below hbel hb1.size rfl (chg_L hca)
          have hx := x_chg hx hS (chg_L hca)
          have hLa := scrLabels_any _ _ _ _ hSa (by rw [sortL_length]; omega) (hg.sort)
          go_wp2_with fail
          (with_reducible refine hLa.mono ?_)
          rintro e wh ⟨rfl, hSh, hch⟩
          have hbh := scr_below hba hb1.size rfl (chg_S hch)
          have hxh := x_chg hx hSa (chg_S hch)
          have hU := unmade_any (sortL m) wh (by rw [sortL_length]; omega) (hg.sort) (by rw [encL_length]; have := lbsN_le (hg.sort); rw [sortL_length] at this; omega)
          go_wp2_with fail
          (with_reducible refine hU.mono ?_)
          rintro e wi ⟨y, rfl, hy, hbi⟩
          have hy := own_up hbh hy
          have hxi := own_low hxh hbi
          have hbii := bnx hbh hbi
          rw [sortL_length] at hy
          obtain ⟨ya, yc, rfl⟩ := own_form hy
          go_wp2_with fail
          go_ret2
          exact ⟨_, _, rfl, hxi, hy, hbii⟩

set_option maxRecDepth 100000 in
set_option maxHeartbeats 8000000 in
theorem scrRun_ft (va : Value) (l : List Lb) (vb : Value) (m : List Lb) (w : World) (h : Ls w va l) (g : Ls w vb m) (hl : l.length ≤ 12) (hm : m.length ≤ 12) (hf : FitL l) (hg : FitL m) :
    Calls Try.prog 19 #[va, vb, .bool false, .bool true] w fun e w' => ∃ x y, e = .returned (.tuple #[x, y]) ∧ w'.ownsRow w.heap.size ILT 2 x l.length (lcells l) ∧ w'.ownsRow w.heap.size ILT 2 y m.length (lcells m) ∧ Below w.heap.size w w' := by
  obtain ⟨ao, cap, rfl, h1, h2⟩ := h.form
  obtain ⟨bo, bcap, rfl, g1, g2⟩ := g.form
  go_enter Try.func19, Try.ntmps19
  go_wp2_with fail
  refine (newScr_any _).mono ?_
  rintro e w1 ⟨sv, rfl, hO1, hb1⟩
  obtain ⟨sa, sc, rfl⟩ := own_form hO1
  have hS0 : Scr (w1.alloc (.cells #[.slice sa 0 sc, .string ⟨#[]⟩, .slice none 0 0] SBT)) w1.heap.size w.heap.size (l.take 0) ⟨#[]⟩ := ⟨_, Blk.new w1 _ SBT, own_alloc hO1 _, Nat.le_trans hb1.size (by simp)⟩
  have hbS := hb1.alloc hb1.size (.cells #[.slice sa 0 sc, .string ⟨#[]⟩, .slice none 0 0] SBT)
  go_wp2_with fail
  go_loopw [19] (fun i wr => ∃ k : Nat, k ≤ l.length ∧ i = .int .i64 k ∧ Scr wr w1.heap.size w.heap.size (l.take k) ⟨#[]⟩ ∧ Below w.heap.size w wr) (fun i _ => l.length - (intOf i).toNat)
  case atStart => exact ⟨0, Nat.zero_le _, rfl, hS0, hbS⟩
  case round =>
    obtain ⟨k, hk, rfl, hS, hbel⟩ := hrel
    clear hS0 hbS
    by_cases hlt : k < l.length
    · obtain ⟨b, off, rfl, hb, hc⟩ := h.at_ (by omega)
      obtain ⟨c0, c1⟩ := hc k hlt
      have c0' := (hbel.cell (p := ⟨b, off + k * 2, none⟩) hb).trans c0
      have c1' := (hbel.cell (p := ⟨b, off + k * 2 + 1, none⟩) hb).trans c1
      have hT := Lib.hid (take_next hlt)
      clear c0 c1 hc
      generalize l[k] = x at *
      obtain ⟨x1, x2⟩ := x
      simp only at c0' c1'
      have i1 : (k : Int) < (l.length : Int) := by omega
      have hX := Scr.low hS (below_new wr (.cells #[.string x1, .string x2] ILT))
      have hbX := hbel.alloc hbel.size (.cells #[.string x1, .string x2] ILT)
      have hA := scrAdd_any _ _ _ _ x1 x2 _ hX (by rw [List.length_take]; omega)
      go_wp2_with fail
      (with_reducible refine hA.mono ?_)
      rintro e w5 ⟨rfl, hS5, hc5⟩
      have hb5 := scr_below hbX hb1.size rfl hc5
      go_wp2_with fail
      go_roundw
      case rel => exact ⟨k + 1, by omega, by go_num, by rw [hT.out]; exact hS5, hb5⟩
      case measure => simp [intOf]; omega
    · obtain rfl : k = l.length := by omega
      rw [List.take_length] at hS
      have hLa := scrLabels_any _ _ _ _ hS (by omega) (hf)
      go_wp2_with fail
      (with_reducible refine hLa.mono ?_)
      rintro e wb ⟨rfl, hSb, hcb⟩
      have hbb := scr_below hbel hb1.size rfl (chg_S hcb)
      have hU := unmade_any l wb (by omega) (hf) (by rw [encL_length]; have := lbsN_le (hf); omega)
      go_wp2_with fail
      (with_reducible refine hU.mono ?_)
      rintro e wc ⟨x, rfl, hx, hbc⟩
      have hx := own_up hbb hx
      have hSc := Scr.low hSb hbc
      have hbcc := bnx hbb hbc
      skip
      obtain ⟨xa, xc, rfl⟩ := own_form hx
      have hRe := scrReset_any _ _ _ _ _ hSc
      go_wp2_with fail
      (with_reducible refine hRe.mono ?_)
      rintro e wd ⟨rfl, hSd, hcd⟩
      have hxd := x_chg hx hSc (chg_S hcd)
      have hbd := scr_below hbcc hb1.size rfl (chg_S hcd)
      go_wp2_with fail
      go_loopw [36] (fun i wr => ∃ k : Nat, k ≤ m.length ∧ i = .int .i64 k ∧ Scr wr w1.heap.size w.heap.size (m.take k) ⟨#[]⟩ ∧ wr.ownsRow w.heap.size ILT 2 (.slice xa l.length xc) l.length (lcells l) ∧ Below w.heap.size w wr) (fun i _ => m.length - (intOf i).toNat)
      case atStart => exact ⟨0, Nat.zero_le _, rfl, hSd, hxd, hbd⟩
      case round =>
        obtain ⟨k, hk, rfl, hS, hx, hbel⟩ := hrel
        by_cases hlt : k < m.length
        · obtain ⟨b, off, rfl, hb, hc⟩ := g.at_ (by omega)
          obtain ⟨c0, c1⟩ := hc k hlt
          have c0' := (hbel.cell (p := ⟨b, off + k * 2, none⟩) hb).trans c0
          have c1' := (hbel.cell (p := ⟨b, off + k * 2 + 1, none⟩) hb).trans c1
          have hT := Lib.hid (take_next hlt)
          clear c0 c1 hc
          generalize m[k] = z at *
          obtain ⟨x1, x2⟩ := z
          simp only at c0' c1'
          have i1 : (k : Int) < (m.length : Int) := by omega
          have hX := Scr.low hS (below_new wr (.cells #[.string x1, .string x2] ILT))
          have hbX := hbel.alloc hbel.size (.cells #[.string x1, .string x2] ILT)
          have hxX := own_alloc hx (.cells #[.string x1, .string x2] ILT)
          have hA := scrAdd_any _ _ _ _ x1 x2 _ hX (by rw [List.length_take]; omega)
          go_wp2_with fail
          (with_reducible refine hA.mono ?_)
          rintro e w5 ⟨rfl, hS5, hc5⟩
          have hb5 := scr_below hbX hb1.size rfl hc5
          have hx5 := x_chg hxX hX hc5
          go_wp2_with fail
          go_roundw
          case rel => exact ⟨k + 1, by omega, by go_num, by rw [hT.out]; exact hS5, hx5, hb5⟩
          case measure => simp [intOf]; omega
        · obtain rfl : k = m.length := by omega
          rw [List.take_length] at hS
          have hL0 := Blk.new wr [.string ⟨#[]⟩] LST
          have hSL := Scr.low hS (below_new _ (.cells #[.string ⟨#[]⟩] LST))
          have hbL := hbel.alloc hbel.size (.cells #[.string ⟨#[]⟩] LST)
          have hxL := own_alloc hx (.cells #[.string ⟨#[]⟩] LST)
          have hsL := hbel.size
          have hOv := scrOver_any _ _ _ _ _ _ _ hSL hL0 (by omega) (hg)
          go_wp2_with fail
          (with_reducible refine hOv.mono ?_)
          rintro e wh ⟨rfl, hLh, hch⟩
          have hbh : Below w.heap.size w wh := hbL.trans (hch.below w.heap.size hbL.size (fun k hk c => by have := hb1.size; rcases c with rfl | rfl <;> omega))
          have hxh := own_chg hxL hch (fun q _ ho c => by
            rcases c with c | c
            · exact (show q ≠ w1.heap.size from fun e => by
                have := x_chg hxL hSL (Chg.refl _ _)
                obtain ⟨v, hB, _, _⟩ := hSL
                obtain ⟨cs, hk⟩ := own_type hxL ho
                subst e
                have hh : (World.alloc _ _).heap[w1.heap.size]? = _ := hB
                rw [hk] at hh
                exact absurd hh (by simp; intro _ c; exact absurd c (by decide))) c
            · have := (hx.lt q ho).2; omega)
          have l0 := hLh.cell 0
          simp only [List.getElem?_cons_zero] at l0
          have hU := unmade_any m wh (by omega) (hg) (by rw [encL_length]; have := lbsN_le (hg); omega)
          unfold lbsV at hU
          go_wp2_with fail
          (with_reducible refine hU.mono ?_)
          rintro e wi ⟨y, rfl, hy, hbi⟩
          have hy := own_up hbh hy
          have hxi := own_low hxh hbi
          have hbii := bnx hbh hbi
          skip
          obtain ⟨ya, yc, rfl⟩ := own_form hy
          go_wp2_with fail
          go_ret2
          exact ⟨_, _, rfl, hxi, hy, hbii⟩

set_option maxRecDepth 100000 in
set_option maxHeartbeats 8000000 in
theorem scrRun_ff (va : Value) (l : List Lb) (vb : Value) (m : List Lb) (w : World) (h : Ls w va l) (g : Ls w vb m) (hl : l.length ≤ 12) (hm : m.length ≤ 12) (hf : FitL l) (hg : FitL m) :
    Calls Try.prog 19 #[va, vb, .bool false, .bool false] w fun e w' => ∃ x y, e = .returned (.tuple #[x, y]) ∧ w'.ownsRow w.heap.size ILT 2 x l.length (lcells l) ∧ w'.ownsRow w.heap.size ILT 2 y m.length (lcells m) ∧ Below w.heap.size w w' := by
  obtain ⟨ao, cap, rfl, h1, h2⟩ := h.form
  obtain ⟨bo, bcap, rfl, g1, g2⟩ := g.form
  go_enter Try.func19, Try.ntmps19
  go_wp2_with fail
  refine (newScr_any _).mono ?_
  rintro e w1 ⟨sv, rfl, hO1, hb1⟩
  obtain ⟨sa, sc, rfl⟩ := own_form hO1
  have hS0 : Scr (w1.alloc (.cells #[.slice sa 0 sc, .string ⟨#[]⟩, .slice none 0 0] SBT)) w1.heap.size w.heap.size (l.take 0) ⟨#[]⟩ := ⟨_, Blk.new w1 _ SBT, own_alloc hO1 _, Nat.le_trans hb1.size (by simp)⟩
  have hbS := hb1.alloc hb1.size (.cells #[.slice sa 0 sc, .string ⟨#[]⟩, .slice none 0 0] SBT)
  go_wp2_with fail
  go_loopw [19] (fun i wr => ∃ k : Nat, k ≤ l.length ∧ i = .int .i64 k ∧ Scr wr w1.heap.size w.heap.size (l.take k) ⟨#[]⟩ ∧ Below w.heap.size w wr) (fun i _ => l.length - (intOf i).toNat)
  case atStart => exact ⟨0, Nat.zero_le _, rfl, hS0, hbS⟩
  case round =>
    obtain ⟨k, hk, rfl, hS, hbel⟩ := hrel
    clear hS0 hbS
    by_cases hlt : k < l.length
    · obtain ⟨b, off, rfl, hb, hc⟩ := h.at_ (by omega)
      obtain ⟨c0, c1⟩ := hc k hlt
      have c0' := (hbel.cell (p := ⟨b, off + k * 2, none⟩) hb).trans c0
      have c1' := (hbel.cell (p := ⟨b, off + k * 2 + 1, none⟩) hb).trans c1
      have hT := Lib.hid (take_next hlt)
      clear c0 c1 hc
      generalize l[k] = x at *
      obtain ⟨x1, x2⟩ := x
      simp only at c0' c1'
      have i1 : (k : Int) < (l.length : Int) := by omega
      have hX := Scr.low hS (below_new wr (.cells #[.string x1, .string x2] ILT))
      have hbX := hbel.alloc hbel.size (.cells #[.string x1, .string x2] ILT)
      have hA := scrAdd_any _ _ _ _ x1 x2 _ hX (by rw [List.length_take]; omega)
      go_wp2_with fail
      (with_reducible refine hA.mono ?_)
      rintro e w5 ⟨rfl, hS5, hc5⟩
      have hb5 := scr_below hbX hb1.size rfl hc5
      go_wp2_with fail
      go_roundw
      case rel => exact ⟨k + 1, by omega, by go_num, by rw [hT.out]; exact hS5, hb5⟩
      case measure => simp [intOf]; omega
    · obtain rfl : k = l.length := by omega
      rw [List.take_length] at hS
      have hLa := scrLabels_any _ _ _ _ hS (by omega) (hf)
      go_wp2_with fail
      (with_reducible refine hLa.mono ?_)
      rintro e wb ⟨rfl, hSb, hcb⟩
      have hbb := scr_below hbel hb1.size rfl (chg_S hcb)
      have hU := unmade_any l wb (by omega) (hf) (by rw [encL_length]; have := lbsN_le (hf); omega)
      go_wp2_with fail
      (with_reducible refine hU.mono ?_)
      rintro e wc ⟨x, rfl, hx, hbc⟩
      have hx := own_up hbb hx
      have hSc := Scr.low hSb hbc
      have hbcc := bnx hbb hbc
      skip
      obtain ⟨xa, xc, rfl⟩ := own_form hx
      have hRe := scrReset_any _ _ _ _ _ hSc
      go_wp2_with fail
      (with_reducible refine hRe.mono ?_)
      rintro e wd ⟨rfl, hSd, hcd⟩
      have hxd := x_chg hx hSc (chg_S hcd)
      have hbd := scr_below hbcc hb1.size rfl (chg_S hcd)
      go_wp2_with fail
      go_loopw [36] (fun i wr => ∃ k : Nat, k ≤ m.length ∧ i = .int .i64 k ∧ Scr wr w1.heap.size w.heap.size (m.take k) ⟨#[]⟩ ∧ wr.ownsRow w.heap.size ILT 2 (.slice xa l.length xc) l.length (lcells l) ∧ Below w.heap.size w wr) (fun i _ => m.length - (intOf i).toNat)
      case atStart => exact ⟨0, Nat.zero_le _, rfl, hSd, hxd, hbd⟩
      case round =>
        obtain ⟨k, hk, rfl, hS, hx, hbel⟩ := hrel
        by_cases hlt : k < m.length
        · obtain ⟨b, off, rfl, hb, hc⟩ := g.at_ (by omega)
          obtain ⟨c0, c1⟩ := hc k hlt
          have c0' := (hbel.cell (p := ⟨b, off + k * 2, none⟩) hb).trans c0
          have c1' := (hbel.cell (p := ⟨b, off + k * 2 + 1, none⟩) hb).trans c1
          have hT := Lib.hid (take_next hlt)
          clear c0 c1 hc
          generalize m[k] = z at *
          obtain ⟨x1, x2⟩ := z
          simp only at c0' c1'
          have i1 : (k : Int) < (m.length : Int) := by omega
          have hX := Scr.low hS (below_new wr (.cells #[.string x1, .string x2] ILT))
          have hbX := hbel.alloc hbel.size (.cells #[.string x1, .string x2] ILT)
          have hxX := own_alloc hx (.cells #[.string x1, .string x2] ILT)
          have hA := scrAdd_any _ _ _ _ x1 x2 _ hX (by rw [List.length_take]; omega)
          go_wp2_with fail
          (with_reducible refine hA.mono ?_)
          rintro e w5 ⟨rfl, hS5, hc5⟩
          have hb5 := scr_below hbX hb1.size rfl hc5
          have hx5 := x_chg hxX hX hc5
          go_wp2_with fail
          go_roundw
          case rel => exact ⟨k + 1, by omega, by go_num, by rw [hT.out]; exact hS5, hx5, hb5⟩
          case measure => simp [intOf]; omega
        · obtain rfl : k = m.length := by omega
          rw [List.take_length] at hS
          have hLa := scrLabels_any _ _ _ _ hS (by omega) (hg)
          go_wp2_with fail
          (with_reducible refine hLa.mono ?_)
          rintro e wh ⟨rfl, hSh, hch⟩
          have hbh := scr_below hbel hb1.size rfl (chg_S hch)
          have hxh := x_chg hx hS (chg_S hch)
          have hU := unmade_any m wh (by omega) (hg) (by rw [encL_length]; have := lbsN_le (hg); omega)
          go_wp2_with fail
          (with_reducible refine hU.mono ?_)
          rintro e wi ⟨y, rfl, hy, hbi⟩
          have hy := own_up hbh hy
          have hxi := own_low hxh hbi
          have hbii := bnx hbh hbi
          skip
          obtain ⟨ya, yc, rfl⟩ := own_form hy
          go_wp2_with fail
          go_ret2
          exact ⟨_, _, rfl, hxi, hy, hbii⟩

end Go.Proofs.Ytapoodnjkkhggaa
