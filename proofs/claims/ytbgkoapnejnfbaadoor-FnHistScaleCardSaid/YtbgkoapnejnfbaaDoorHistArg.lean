/-
  An argument that is a histogram, opened: what its thirteen cells hold.
-/
import Derived.Test.YtbgkoapnejnfbaaDoorValid
import Derived.Test.YtbgkoapnejnfbaaDoorErrs
namespace Go.Proofs.YtbgkoapnejnfbaaDoor
set_option linter.unusedSimpArgs false
set_option linter.unusedVariables false
open Go.RowKit Go.ChangeShapes

def hist0 : Hist := ⟨0, 0, 0, 0, 0, 0, [], [], [], [], [], [], []⟩

theorem nat_of {z : Int} (hz : (Lit.int .u64 z).wf = true) : ∃ n : Nat, z = (n : Int) := by
  have m0 : IntKind.u64.min = 0 := by decide
  have h0 : 0 ≤ z := by
    simp only [Lit.wf, Bool.and_eq_true, decide_eq_true_eq, m0] at hz
    exact hz.1
  exact ⟨z.toNat, (Int.toNat_of_nonneg h0).symm⟩
theorem rng32 {z : Int} (hz : (Lit.int .i32 z).wf = true) : -2147483648 ≤ z ∧ z ≤ 2147483647 := by
  have m0 : IntKind.i32.min = -2147483648 := by decide
  have m1 : IntKind.i32.max = 2147483647 := by decide
  simpa only [Lit.wf, Bool.and_eq_true, decide_eq_true_eq, m0, m1] using hz
theorem rngu32 {z : Int} (hz : (Lit.int .u32 z).wf = true) : 0 ≤ z ∧ z ≤ 4294967295 := by
  have m0 : IntKind.u32.min = 0 := by decide
  have m1 : IntKind.u32.max = 4294967295 := by decide
  simpa only [Lit.wf, Bool.and_eq_true, decide_eq_true_eq, m0, m1] using hz

set_option maxRecDepth 100000 in
theorem open_hist {H : Type} {enc : TypeId × Value → H} {W : World} {spare : Nat → Bool} {held : Bool} {v : Value} {d : DataW H} {ps : List MemPlace}
    (h : DataW.Trod enc Tryd.prog W 0 spare held 27 v d ps) :
    ∃ (x1 x2 x3 x4 x5 x6 x7 : Value) (b : Hist), v = .agg (histCells b x1 x2 x3 x4 x5 x6 x7) ∧ HistAt W W.heap.size x1 x2 x3 x4 x5 x6 x7 b ∧ Wf b := by
  obtain ⟨fuel, hf⟩ := h
  obtain ⟨xs, n, _, _, hl, hlen, hx⟩ := DataW.trod_struct Tryd.underlying27 hf
  have hl' : v.cells.toList.length = 13 := hl.trans (by kernel_rfl)
  generalize ev : v.cells.toList = cs at hl' hx
  match cs, hl', xs, hlen with
  | [c0, c1, c2, c3, c4, c5, c6, c7, c8, c9, c10, c11, c12], _, [y0, y1, y2, y3, y4, y5, y6, y7, y8, y9, y10, y11, y12], _ =>
  have hv : v = .agg #[c0, c1, c2, c3, c4, c5, c6, c7, c8, c9, c10, c11, c12] := by
    cases v with
    | agg a => exact congrArg Value.agg (Array.toList_inj.1 ev)
    | _ => cases ev
  subst hv
  have g0 : DataW.trod enc Tryd.prog W 0 spare held n 5 [c0] = some y0 := by
    have hc : Tryd.prog.cellsOf 5 = 1 := by kernel_rfl
    refine Eq.trans ?_ (hx 0 _ rfl)
    show _ = DataW.trod enc Tryd.prog W 0 spare held n 5 (List.take (Tryd.prog.cellsOf 5) (List.drop 0 [c0, c1, c2, c3, c4, c5, c6, c7, c8, c9, c10, c11, c12]))
    rw [hc]
    rfl
  have g1 : DataW.trod enc Tryd.prog W 0 spare held n 21 [c1] = some y1 := by
    have hc : Tryd.prog.cellsOf 21 = 1 := by kernel_rfl
    refine Eq.trans ?_ (hx 1 _ rfl)
    show _ = DataW.trod enc Tryd.prog W 0 spare held n 21 (List.take (Tryd.prog.cellsOf 21) (List.drop 1 [c0, c1, c2, c3, c4, c5, c6, c7, c8, c9, c10, c11, c12]))
    rw [hc]
    rfl
  have g2 : DataW.trod enc Tryd.prog W 0 spare held n 22 [c2] = some y2 := by
    have hc : Tryd.prog.cellsOf 22 = 1 := by kernel_rfl
    refine Eq.trans ?_ (hx 2 _ rfl)
    show _ = DataW.trod enc Tryd.prog W 0 spare held n 22 (List.take (Tryd.prog.cellsOf 22) (List.drop 2 [c0, c1, c2, c3, c4, c5, c6, c7, c8, c9, c10, c11, c12]))
    rw [hc]
    rfl
  have g3 : DataW.trod enc Tryd.prog W 0 spare held n 22 [c3] = some y3 := by
    have hc : Tryd.prog.cellsOf 22 = 1 := by kernel_rfl
    refine Eq.trans ?_ (hx 3 _ rfl)
    show _ = DataW.trod enc Tryd.prog W 0 spare held n 22 (List.take (Tryd.prog.cellsOf 22) (List.drop 3 [c0, c1, c2, c3, c4, c5, c6, c7, c8, c9, c10, c11, c12]))
    rw [hc]
    rfl
  have g4 : DataW.trod enc Tryd.prog W 0 spare held n 22 [c4] = some y4 := by
    have hc : Tryd.prog.cellsOf 22 = 1 := by kernel_rfl
    refine Eq.trans ?_ (hx 4 _ rfl)
    show _ = DataW.trod enc Tryd.prog W 0 spare held n 22 (List.take (Tryd.prog.cellsOf 22) (List.drop 4 [c0, c1, c2, c3, c4, c5, c6, c7, c8, c9, c10, c11, c12]))
    rw [hc]
    rfl
  have g5 : DataW.trod enc Tryd.prog W 0 spare held n 22 [c5] = some y5 := by
    have hc : Tryd.prog.cellsOf 22 = 1 := by kernel_rfl
    refine Eq.trans ?_ (hx 5 _ rfl)
    show _ = DataW.trod enc Tryd.prog W 0 spare held n 22 (List.take (Tryd.prog.cellsOf 22) (List.drop 5 [c0, c1, c2, c3, c4, c5, c6, c7, c8, c9, c10, c11, c12]))
    rw [hc]
    rfl
  have g6 : DataW.trod enc Tryd.prog W 0 spare held n 23 [c6] = some y6 := by
    have hc : Tryd.prog.cellsOf 23 = 1 := by kernel_rfl
    refine Eq.trans ?_ (hx 6 _ rfl)
    show _ = DataW.trod enc Tryd.prog W 0 spare held n 23 (List.take (Tryd.prog.cellsOf 23) (List.drop 6 [c0, c1, c2, c3, c4, c5, c6, c7, c8, c9, c10, c11, c12]))
    rw [hc]
    rfl
  have g7 : DataW.trod enc Tryd.prog W 0 spare held n 23 [c7] = some y7 := by
    have hc : Tryd.prog.cellsOf 23 = 1 := by kernel_rfl
    refine Eq.trans ?_ (hx 7 _ rfl)
    show _ = DataW.trod enc Tryd.prog W 0 spare held n 23 (List.take (Tryd.prog.cellsOf 23) (List.drop 7 [c0, c1, c2, c3, c4, c5, c6, c7, c8, c9, c10, c11, c12]))
    rw [hc]
    rfl
  have g8 : DataW.trod enc Tryd.prog W 0 spare held n 24 [c8] = some y8 := by
    have hc : Tryd.prog.cellsOf 24 = 1 := by kernel_rfl
    refine Eq.trans ?_ (hx 8 _ rfl)
    show _ = DataW.trod enc Tryd.prog W 0 spare held n 24 (List.take (Tryd.prog.cellsOf 24) (List.drop 8 [c0, c1, c2, c3, c4, c5, c6, c7, c8, c9, c10, c11, c12]))
    rw [hc]
    rfl
  have g9 : DataW.trod enc Tryd.prog W 0 spare held n 24 [c9] = some y9 := by
    have hc : Tryd.prog.cellsOf 24 = 1 := by kernel_rfl
    refine Eq.trans ?_ (hx 9 _ rfl)
    show _ = DataW.trod enc Tryd.prog W 0 spare held n 24 (List.take (Tryd.prog.cellsOf 24) (List.drop 9 [c0, c1, c2, c3, c4, c5, c6, c7, c8, c9, c10, c11, c12]))
    rw [hc]
    rfl
  have g10 : DataW.trod enc Tryd.prog W 0 spare held n 25 [c10] = some y10 := by
    have hc : Tryd.prog.cellsOf 25 = 1 := by kernel_rfl
    refine Eq.trans ?_ (hx 10 _ rfl)
    show _ = DataW.trod enc Tryd.prog W 0 spare held n 25 (List.take (Tryd.prog.cellsOf 25) (List.drop 10 [c0, c1, c2, c3, c4, c5, c6, c7, c8, c9, c10, c11, c12]))
    rw [hc]
    rfl
  have g11 : DataW.trod enc Tryd.prog W 0 spare held n 25 [c11] = some y11 := by
    have hc : Tryd.prog.cellsOf 25 = 1 := by kernel_rfl
    refine Eq.trans ?_ (hx 11 _ rfl)
    show _ = DataW.trod enc Tryd.prog W 0 spare held n 25 (List.take (Tryd.prog.cellsOf 25) (List.drop 11 [c0, c1, c2, c3, c4, c5, c6, c7, c8, c9, c10, c11, c12]))
    rw [hc]
    rfl
  have g12 : DataW.trod enc Tryd.prog W 0 spare held n 25 [c12] = some y12 := by
    have hc : Tryd.prog.cellsOf 25 = 1 := by kernel_rfl
    refine Eq.trans ?_ (hx 12 _ rfl)
    show _ = DataW.trod enc Tryd.prog W 0 spare held n 25 (List.take (Tryd.prog.cellsOf 25) (List.drop 12 [c0, c1, c2, c3, c4, c5, c6, c7, c8, c9, c10, c11, c12]))
    rw [hc]
    rfl
  obtain ⟨z0, e0, _, w0⟩ := DataW.trod_int Tryd.underlying5 g0
  obtain ⟨z1, e1, _, w1⟩ := DataW.trod_int Tryd.underlying21 g1
  obtain ⟨z2, e2, _, w2⟩ := DataW.trod_int Tryd.underlying22 g2
  obtain ⟨m2, rfl⟩ := nat_of w2
  obtain ⟨z3, e3, _, w3⟩ := DataW.trod_int Tryd.underlying22 g3
  obtain ⟨m3, rfl⟩ := nat_of w3
  obtain ⟨z4, e4, _, w4⟩ := DataW.trod_int Tryd.underlying22 g4
  obtain ⟨m4, rfl⟩ := nat_of w4
  obtain ⟨z5, e5, _, w5⟩ := DataW.trod_int Tryd.underlying22 g5
  obtain ⟨m5, rfl⟩ := nat_of w5
  obtain ⟨v6, l6, e6, I6, w6⟩ := open_Pairs Tryd.underlying23 Tryd.underlying52 (by kernel_rfl) Tryd.underlying21 Tryd.underlying41 (by kernel_rfl) (by kernel_rfl) rfl rfl g6
  obtain ⟨v7, l7, e7, I7, w7⟩ := open_Pairs Tryd.underlying23 Tryd.underlying52 (by kernel_rfl) Tryd.underlying21 Tryd.underlying41 (by kernel_rfl) (by kernel_rfl) rfl rfl g7
  obtain ⟨v8, l8, e8, I8, w8⟩ := open_Ints Tryd.underlying24 Tryd.underlying2 (by kernel_rfl) g8
  obtain ⟨v9, l9, e9, I9, w9⟩ := open_Ints Tryd.underlying24 Tryd.underlying2 (by kernel_rfl) g9
  obtain ⟨v10, l10, e10, I10, w10⟩ := open_Ints Tryd.underlying25 Tryd.underlying22 (by kernel_rfl) g10
  obtain ⟨b10, rfl, _⟩ := nats_of l10 w10
  obtain ⟨v11, l11, e11, I11, w11⟩ := open_Ints Tryd.underlying25 Tryd.underlying22 (by kernel_rfl) g11
  obtain ⟨b11, rfl, _⟩ := nats_of l11 w11
  obtain ⟨v12, l12, e12, I12, w12⟩ := open_Ints Tryd.underlying25 Tryd.underlying22 (by kernel_rfl) g12
  obtain ⟨b12, rfl, _⟩ := nats_of l12 w12
  cases e0; cases e1; cases e2; cases e3; cases e4; cases e5; cases e6; cases e7; cases e8; cases e9; cases e10; cases e11; cases e12
  exact ⟨_, _, _, _, _, _, _, ⟨z0, z1, m2, m3, m4, m5, l6, l7, l8, l9, b10, b11, b12⟩, rfl, ⟨I6, I7, I8, I9, I10, I11, I12⟩, fun x hx => ⟨rng32 (w6 x hx).1, rngu32 (w6 x hx).2⟩, fun x hx => ⟨rng32 (w7 x hx).1, rngu32 (w7 x hx).2⟩⟩
end Go.Proofs.YtbgkoapnejnfbaaDoor
