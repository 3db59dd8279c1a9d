/-
  The scratch builder: New, Add, Sort, Labels, Reset.
-/
import Derived.Test.YtapoodnjkkhggaaNew
import Derived.Test.YtapoodnjkkhggaaRng
import Derived.Test.YtapoodnjkkhggaaSafe2
namespace Go.Proofs.Ytapoodnjkkhggaa
set_option linter.unusedSimpArgs false
set_option linter.unusedVariables false
open Go.RowKit

abbrev SBT : TypeId := 60
set_option maxRecDepth 100000 in
theorem scrCmp_any (x y : Lb) (w : World) : Calls Try.prog 52 #[.agg #[.string x.1, .string x.2], .agg #[.string y.1, .string y.2]] w fun e w' => ∃ z : Int, e = .returned (.int .i64 z) ∧ decide (z < 0) = lt x.1 y.1 ∧ Below w.heap.size w w' := by
  have hb : Below w.heap.size w ((w.alloc (.cells #[.string x.1, .string x.2] LT)).alloc (.cells #[.string y.1, .string y.2] LT)) := (below_new w _).alloc (by simp) _
  go_enter Try.func52, Try.ntmps52
  go_wp2_with (refine (strCompare_any _ _ _).mono ?_; rintro e w' ⟨rfl, rfl⟩)
  go_ret
  exact ⟨_, rfl, cmpB_lt x.1 y.1, hb⟩
set_option maxRecDepth 100000 in
theorem scrCmp : Cmps 52 := ⟨fun _ _ => rfl, fun x y w => scrCmp_any x y w⟩
/-- a scratch builder in block S: the labels that were added, its output -/
def Scr (w : World) (S base : Nat) (l : List Lb) (out : ByteArray) : Prop := ∃ v, Blk w S [v, .string out, .slice none 0 0] SBT ∧ w.ownsRow base LT 2 v l.length (lcells l) ∧ base ≤ w.heap.size
def LtB (w : World) (base q : Nat) : Prop := base ≤ q ∧ ∃ cs, w.heap[q]? = some (.cells cs LT (0, 0))
theorem scr_ne {w : World} {S base n : Nat} {v v2 u1 u2 : Value} {xs : List Value} (hB : Blk w S [v2, u1, u2] SBT) (hO : w.ownsRow base LT 2 v n xs) : ∀ g, v.ownBlock = some g → g ≠ S := by
  rintro g hg rfl
  obtain ⟨cs, hk⟩ := own_type hO hg
  have h : w.heap[g]? = _ := hB
  rw [hk] at h
  exact absurd h (by simp; intro _ c; exact absurd c (by decide))
theorem Scr.low {w w' : World} {S base : Nat} {l : List Lb} {out : ByteArray} (h : Scr w S base l out) (hb : Below w.heap.size w w') : Scr w' S base l out := by
  obtain ⟨v, h1, h2, h4⟩ := h
  exact ⟨v, h1.chg (Chg.ofBelow hb) (fun c => absurd (Nat.lt_of_lt_of_le h1.lt c) (Nat.lt_irrefl _)), own_below h2 hb (fun g hg => (h2.lt g hg).2), Nat.le_trans h4 hb.size⟩
set_option maxRecDepth 100000 in
set_option maxHeartbeats 4000000 in
theorem scrAdd_any (S base : Nat) (l : List Lb) (out n v : ByteArray) (w : World) (h : Scr w S base l out) (hl : l.length ≤ 1000) :
    Calls Try.prog 33 #[.pointer (some ⟨S, 0, none⟩), .string n, .string v] w fun e w' => e = .returned (.tuple #[]) ∧ Scr w' S base (l ++ [(n, v)]) out ∧ Chg (fun q => q = S ∨ LtB w base q) w w' := by
  obtain ⟨i0, hi, hz0, hz1, hz2⟩ := info_parts infoLb
  obtain ⟨sv, hB, hO, hbw⟩ := h
  have hne := scr_ne hB hO
  obtain ⟨va, vc, rfl⟩ := own_form hO
  have c0 := hB.cell 0
  simp only [List.getElem?_cons_zero] at c0
  have hB1 := hB.alloc (.cells #[.string n, .string v] LT)
  have hO1 := own_alloc hO (.cells #[.string n, .string v] LT)
  have hX := heap_alloc_new w (.cells #[.string n, .string v] LT)
  have HT := Lib.hid (show ∀ q, (Value.slice va l.length vc).ownBlock = some q → LtB w base q from fun q hq => ⟨(hO.lt q hq).1, own_type hO hq⟩)
  have hc1 : Chg (fun q => q = S ∨ LtB w base q) w (w.alloc (.cells #[.string n, .string v] LT)) := (Chg.refl _ w).alloc _
  have hz : base ≤ (w.alloc (.cells #[.string n, .string v] LT)).heap.size := Nat.le_trans hbw hc1.size
  have hn : l.length < 2147483648 := by omega
  clear hO
  go_enter Try.func33, Try.ntmps33
  go_wp2_with (first
    | (at_builtin; refine list_app 57 LT i0 _ 2 32 rfl (.tmp 10) (.tmp 14) rfl rfl Try.underlying57 hi hz0 hz1 hz2 rfl (by decide) (by decide) base (.slice va l.length vc) l.length (lcells l) rfl hO1 w.heap.size rfl [.string n, .string v] rfl hX (one2s n v) hn hz ?_; intro v' w5 ho5 hg5; obtain ⟨ya, yc, rfl⟩ := own_form ho5; have q5 := hB1.chg (Chg.ofGrown hg5) (fun h => hne S h.symm rfl); have d5 := q5.cell 0; have z5 := q5.free 0; have q6 := q5.set 0 (.slice ya (l.length + 1) yc))
    | fail)
  go_end0
  have hc5 := hc1.grown hg5 (fun q hq => .inr (HT.out q hq))
  have hc6 := hc5.setCell ⟨S, 0, none⟩ (.inl rfl) (.slice ya (l.length + 1) yc)
  refine ⟨rfl, ⟨_, q6, ?_, Nat.le_trans hbw hc6.size⟩, hc6⟩
  have e1 : (l ++ [(n, v)]).length = l.length + 1 := by simp
  have e2 : lcells (l ++ [(n, v)]) = lcells l ++ [.string n, .string v] := by rw [lcells_append]; rfl
  rw [e1, e2]
  exact own_chg ho5 (chg_set w5 S 0 _) (fun g hg ho h => scr_ne q5 ho5 g ho h)
set_option maxRecDepth 100000 in
set_option maxHeartbeats 4000000 in
theorem scrSort_any (S base : Nat) (l : List Lb) (out : ByteArray) (w : World) (h : Scr w S base l out) (hl : l.length ≤ 12) :
    Calls Try.prog 34 #[.pointer (some ⟨S, 0, none⟩)] w fun e w' => e = .returned (.tuple #[]) ∧ Scr w' S base (sortL l) out ∧ Chg (fun q => LtB w base q) w w' := by
  obtain ⟨sv, hB, hO, hbw⟩ := h
  have hne := scr_ne hB hO
  have hF := sortFunc_any base sv l _ w hO hl scrCmp
  have hlow : ∀ g, sv.ownBlock = some g → LtB w base g := fun g hg => ⟨(hO.lt g hg).1, own_type hO hg⟩
  obtain ⟨va, vc, rfl⟩ := own_form hO
  have c0 := hB.cell 0
  simp only [List.getElem?_cons_zero] at c0
  go_enter Try.func34, Try.ntmps34
  go_wp2_with ((with_reducible refine hF.mono ?_); rintro e w1 ⟨rfl, hO1, hc1⟩)
  go_end0
  refine ⟨rfl, ⟨_, hB.chg hc1 (fun c => hne S c rfl), by rw [sortL_length]; exact hO1, Nat.le_trans hbw hc1.size⟩, hc1.mono (fun q hq => hlow q hq)⟩
set_option maxRecDepth 100000 in
theorem isEmpty_any (s : ByteArray) (w : World) : Calls Try.prog 54 #[.agg #[.string s]] w fun e w' => e = .returned (.bool (decide (s.size = 0))) ∧ Below w.heap.size w w' := by
  have hb := below_new w (.cells #[.string s] LST)
  by_cases h : s.size = 0
  · have h' : ((s.size : Int) == 0) = true := by rw [beq_iff_eq]; omega
    have HD := Lib.hid (show true = decide (s.size = 0) by rw [decide_eq_true h])
    clear h
    go_enter Try.func54, Try.ntmps54
    go_wp2_with fail
    go_ret
    exact ⟨eqb HD.out, hb⟩
  · have h' : ((s.size : Int) == 0) = false := by rw [beq_eq_false_iff_ne]; omega
    have HD := Lib.hid (show false = decide (s.size = 0) by rw [decide_eq_false h])
    clear h
    go_enter Try.func54, Try.ntmps54
    go_wp2_with fail
    go_ret
    exact ⟨eqb HD.out, hb⟩
set_option maxRecDepth 100000 in
theorem emptyLabels_any (w : World) : Calls Try.prog 37 #[] w fun e w' => e = .returned (.agg #[.string ⟨#[]⟩]) ∧ Below w.heap.size w w' := by
  have hR := Blk.new w [.string ⟨#[]⟩] LST
  have hR2 := hR.set 0 (.string ⟨#[]⟩)
  have r0 := hR.cell 0
  have z0 := hR.free 0
  have r2 := hR2.cell 0
  simp only [List.getElem?_cons_zero, List.set_cons_zero] at r0 r2
  have hb := (below_new w (.cells #[.string ⟨#[]⟩] LST)).setCell (p := ⟨w.heap.size, 0, none⟩) (Nat.le_refl _) (.string ⟨#[]⟩)
  go_enter Try.func37, Try.ntmps37
  go_wp2_with fail
  exact bodyPost_ret (v := .agg #[.string ⟨#[]⟩]) (by simp [results, Try.results37, go_sem, r0]) rfl ⟨rfl, below_new w _⟩

theorem x_chg {w w' : World} {S base b n : Nat} {l : List Lb} {out : ByteArray} {x : Value} {xs : List Value} (hx : w.ownsRow b 41 2 x n xs) (hS : Scr w S base l out) (hc : Chg (fun q => q = S ∨ LtB w base q) w w') : w'.ownsRow b 41 2 x n xs := by
  obtain ⟨v, hB, _, _⟩ := hS
  refine own_chg hx hc (fun g _ ho c => ?_)
  obtain ⟨cs, hk⟩ := own_type hx ho
  rcases c with rfl | ⟨_, ds, hd⟩
  · have h : w.heap[g]? = _ := hB
    rw [hk] at h
    exact absurd h (by simp; intro _ c; exact absurd c (by decide))
  · rw [hk] at hd
    exact absurd hd (by simp; intro _ c; exact absurd c (by decide))
theorem szE_ne (n : Nat) (a : List UInt8) : (szE n ++ a).length ≠ 0 := by rw [List.length_append, szE_length]; have := szN_pos n; omega
theorem encL_nil_iff {l : List Lb} : (encL l).length = 0 ↔ l = [] := by
  cases l with
  | nil => simp [encL, ents, encE]
  | cons x l =>
    rw [encL_cons, List.length_append, strE_length]
    have := szN_pos x.1.size
    constructor
    · intro h; omega
    · intro h; cases h
set_option maxRecDepth 100000 in
set_option maxHeartbeats 4000000 in
theorem scrLabels_any (S base : Nat) (l : List Lb) (w : World) (h : Scr w S base l ⟨#[]⟩) (hl : l.length ≤ 12) (hf : FitL l) :
    Calls Try.prog 35 #[.pointer (some ⟨S, 0, none⟩)] w fun e w' => e = .returned (lbsV l) ∧ Scr w' S base l ⟨(encL l).toArray⟩ ∧ Chg (fun q => q = S) w w' := by
  obtain ⟨sv, hB, hO, hbw⟩ := h
  have hne := scr_ne hB hO
  have hlt := hB.lt
  have hown : ∀ g, sv.ownBlock = some g → base ≤ g ∧ g < w.heap.size := fun g hg => hO.lt g hg
  obtain ⟨va, vc, rfl⟩ := own_form hO
  have hR0 := Blk.new w [.string ⟨#[]⟩] LST
  have q0 := hB.alloc (.cells #[.string ⟨#[]⟩] LST)
  have hc0 : Chg (fun q => q = S) w (w.alloc (.cells #[.string ⟨#[]⟩] LST)) := (Chg.refl _ w).alloc _
  have d0 := q0.cell 0
  have d1 := q0.cell 1
  simp only [List.getElem?_cons_zero, List.getElem?_cons_succ] at d0 d1
  have hO0 := own_alloc hO (.cells #[.string ⟨#[]⟩] LST)
  have hI := isEmpty_any ⟨#[]⟩ (w.alloc (.cells #[.string ⟨#[]⟩] LST))
  rw [show decide ((⟨#[]⟩ : ByteArray).size = 0) = true from rfl] at hI
  have hbn := lbsN_le hf
  have hE := encL_length l
  have hlt0 : w.heap.size < (w.alloc (.cells #[.string ⟨#[]⟩] LST)).heap.size := by simp
  generalize hWW : w.alloc (.cells #[.string ⟨#[]⟩] LST) = W0 at hR0 q0 hc0 d0 d1 hO0 hI hlt0
  subst hWW
  go_enter Try.func35, Try.ntmps35
  go_wp2_with fail
  refine hI.mono ?_
  rintro e w1 ⟨rfl, hb1⟩
  have hR1 := hR0.chg (Chg.ofBelow hb1) (fun c => absurd (Nat.lt_of_lt_of_le hR0.lt c) (Nat.lt_irrefl _))
  have q1 := q0.chg (Chg.ofBelow hb1) (fun c => absurd (Nat.lt_of_lt_of_le q0.lt c) (Nat.lt_irrefl _))
  have hc1 := hc0.calls hb1
  have hO1 := own_below hO0 hb1 (fun g hg => (hO0.lt g hg).2)
  have e0 := q1.cell 0
  simp only [List.getElem?_cons_zero] at e0
  have hL1 : Ls w1 _ l := Ls.own hO1
  have hZ := labelsSize_any _ _ _ hL1 hf (by omega)
  go_wp2_with fail
  refine hZ.mono ?_
  rintro e w2 ⟨rfl, hb2⟩
  have hR2 := hR1.chg (Chg.ofBelow hb2) (fun c => absurd (Nat.lt_of_lt_of_le hR1.lt c) (Nat.lt_irrefl _))
  have q2 := q1.chg (Chg.ofBelow hb2) (fun c => absurd (Nat.lt_of_lt_of_le q1.lt c) (Nat.lt_irrefl _))
  have hc2 := hc1.calls hb2
  have hO2 := own_below hO1 hb2 (fun g hg => (hO1.lt g hg).2)
  have hmk := made_u8 w2 (lbsN l) (lbsN l) (Nat.le_refl _) (by omega)
  have hbm := below_new w2 (.cells (madeCells #[.int .u8 0] (lbsN l)) UT)
  have hBm := blk_made w2 (lbsN l)
  have hL3 := (hL1.up hb2).up hbm
  have hlt2 := hR2.lt
  have hvg : ∀ a m c, Value.slice va l.length vc = .slice (some a) m c → a.block ≠ w2.heap.size := fun a m c e h => by
    cases e
    have := (hown a.block rfl).2
    have h2 := hc2.size
    omega
  have hMs := marshals_any (.slice va l.length vc) l w2.heap.size (lbsN l) (lbsN l) [] (List.replicate (lbsN l) (.int .u8 0)) [] _ hL3 hvg hf hl (by rw [List.append_nil]; exact hBm) rfl rfl (by simp) (Nat.le_refl _)
  have q3 := q2.alloc (.cells (madeCells #[.int .u8 0] (lbsN l)) UT)
  have hR3 := hR2.alloc (.cells (madeCells #[.int .u8 0] (lbsN l)) UT)
  have hc3 := hc2.alloc (.cells (madeCells #[.int .u8 0] (lbsN l)) UT)
  have hO3 := own_alloc hO2 (.cells (madeCells #[.int .u8 0] (lbsN l)) UT)
  have e3 := q3.cell 0
  simp only [List.getElem?_cons_zero] at e3
  clear hBm hL3 hvg hbm hZ hL1 hb1 hb2 hI hR1 hR2 q1 hO1 hO2 d0 d1 hO0 hR0
  generalize lbsN l = N at *
  go_wp2_with fail
  refine hMs.mono ?_
  rintro e w4 ⟨rfl, hB4, hc4⟩
  have hSlt : S < w2.heap.size := by omega
  have q4 := q3.chg hc4 (by omega)
  have hR4 := hR3.chg hc4 (by omega)
  have hO4 := own_chg hO3 hc4 (fun g hg ho c => by have := (hown g ho).2; have := hc2.size; omega)
  have hc4' : Chg (fun q => q = S) w w4 := Chg.low (hc3.mono (fun q hq => .inl hq) |>.trans (hc4.mono (fun q hq => .inr (by have := hc2.size; omega))))
  have hy := yolo_any w2.heap.size N N (encL l) [] w4 hB4 hE.symm
  have z1 := q4.free 1
  have f1 := q4.cell 1
  have q5 := q4.set 1 (.string ⟨(encL l).toArray⟩)
  have g1 := q5.cell 1
  have hR5 := hR4.chg (chg_set w4 S 1 (.string ⟨(encL l).toArray⟩)) (by omega)
  have hc5 := hc4'.setCell ⟨S, 1, none⟩ rfl (.string ⟨(encL l).toArray⟩)
  have r5 := hR5.cell 0
  have zr5 := hR5.free 0
  have q6 := q5.chg (chg_set (w4.setCell ⟨S, 1, none⟩ (.string ⟨(encL l).toArray⟩)) w.heap.size 0 (.string ⟨(encL l).toArray⟩)) (by omega)
  have hR6 := hR5.set 0 (.string ⟨(encL l).toArray⟩)
  have r6 := hR6.cell 0
  have hO6 := own_chg (own_chg hO4 (chg_set w4 S 1 (.string ⟨(encL l).toArray⟩)) (fun g hg ho c => hne g ho c)) (chg_set (w4.setCell ⟨S, 1, none⟩ (.string ⟨(encL l).toArray⟩)) w.heap.size 0 (.string ⟨(encL l).toArray⟩)) (fun g hg ho c => by have := (hown g ho).2; omega)
  have hc6 : Chg (fun q => q = S) w ((w4.setCell ⟨S, 1, none⟩ (.string ⟨(encL l).toArray⟩)).setCell ⟨w.heap.size, 0, none⟩ (.string ⟨(encL l).toArray⟩)) := Chg.low ((hc5.mono (fun q hq => .inl hq)).trans ((chg_set _ w.heap.size 0 _).mono (fun q hq => .inr (by omega))))
  simp only [List.getElem?_cons_zero, List.getElem?_cons_succ, List.set_cons_zero, List.set_cons_succ] at f1 g1 r5 r6
  have HC6 := Lib.hid hc6
  have HQ6 := Lib.hid q6
  have HO6 := Lib.hid hO6
  clear hmk hMs hR3 hR4 hB4 hE hc4 hbn hO hf q3 q4 q5 q6 hO3 hO4 hO6 hc6 hc5 hc4' hc3 hc2 hc1 hc0 q2 q0 hB hR5 hR6
  go_wp2_with ((with_reducible refine hy.mono ?_); rintro e w5 ⟨rfl, rfl⟩)
  exact bodyPost_ret (v := lbsV l) (by simp [results, Try.results35, go_sem, r6, lbsV]) rfl ⟨rfl, ⟨_, HQ6.out, HO6.out, Nat.le_trans hbw HC6.out.size⟩, HC6.out⟩
end Go.Proofs.Ytapoodnjkkhggaa
