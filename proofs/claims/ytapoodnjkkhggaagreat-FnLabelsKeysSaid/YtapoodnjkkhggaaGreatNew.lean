/-
  impl.pairs; labels.New; impl.made.
-/
import Derived.Test.YtapoodnjkkhggaaGreatPdq
import Derived.Test.YtapoodnjkkhggaaGreatMar2
import Derived.Lib.ConvBytes
import Derived.Laws.IdiomStrings
namespace Go.Proofs.YtapoodnjkkhggaaGreat
set_option linter.unusedSimpArgs false
set_option linter.unusedVariables false
open Go.RowKit

/-- labels as a value -/
def lbsV (l : List Lb) : Value := .agg #[.string ⟨(encL l).toArray⟩]
theorem infoLb : (Tryz.prog.info? LT).map (fun i => (i.zero, i.size, i.bytes)) = some (some (.agg #[.string ⟨#[]⟩, .string ⟨#[]⟩]), 2, 32) := by kernel_rfl
theorem infoLb2 : (Tryz.prog.info? 59).map (fun i => (i.zero, i.size, i.bytes)) = some (some (.agg #[.string ⟨#[]⟩, .string ⟨#[]⟩]), 2, 32) := by kernel_rfl
theorem lcells_take {l : List Lb} {k : Nat} (h : k < l.length) : lcells (l.take (k + 1)) = lcells (l.take k) ++ [.string l[k].1, .string l[k].2] := by rw [take_next h, lcells_append]; rfl
theorem one2s (x y : ByteArray) : ∀ u ∈ [Value.string x, .string y], u.oneCell' = true := by intro u hu; simp at hu; rcases hu with rfl | rfl <;> rfl
set_option maxRecDepth 100000 in
set_option maxHeartbeats 2000000 in
theorem pairs_any (v : Value) (l : List Lb) (w : World) (h : Ls w v l) (hl : l.length ≤ 1000000) :
    Calls Tryz.prog 98 #[v] w fun e w' => ∃ x, e = .returned x ∧ w'.ownsRow w.heap.size LT 2 x l.length (lcells l) ∧ Below w.heap.size w w' := by
  obtain ⟨ao, cap, rfl, h1, h2⟩ := h.form
  obtain ⟨i0, hi, hz0, hz1, hz2⟩ := info_parts infoLb
  go_enter Tryz.func98, Tryz.ntmps98
  go_wp2_with fail
  go_loopw [3, 8] (fun z i wr => ∃ k : Nat, k ≤ l.length ∧ i = .int .i64 k ∧ wr.ownsRow w.heap.size LT 2 z k (lcells (l.take k)) ∧ Below w.heap.size w wr) (fun _ i _ => l.length - (intOf i).toNat)
  case atStart => exact ⟨0, Nat.zero_le _, rfl, World.ownsRow_nil _ _ _ _, Below.refl _ _⟩
  case round => as_aux_lemma =>
    obtain ⟨k, hk, rfl, ho, hbel⟩ := hrel
    obtain ⟨za, zc, rfl⟩ := own_form ho
    by_cases hlt : k < l.length
    · obtain ⟨b, off, rfl, hb, hc⟩ := h.at_ (by omega)
      obtain ⟨c0, c1⟩ := hc k hlt
      have c0' := (hbel.cell (p := ⟨b, off + k * 2, none⟩) hb).trans c0
      have c1' := (hbel.cell (p := ⟨b, off + k * 2 + 1, none⟩) hb).trans c1
      have hT := Lib.hid (lcells_take hlt)
      clear c0 c1 hc
      generalize l[k] = x at *
      obtain ⟨x1, x2⟩ := x
      simp only at c0' c1'
      have i1 : (k : Int) < (l.length : Int) := by omega
      have hzr := hbel.size
      have hoX := own_alloc (own_alloc ho (.cells #[.string x1, .string x2] 59)) (.cells #[.string x1, .string x2] LT)
      have hbX : Below w.heap.size w ((wr.alloc (.cells #[.string x1, .string x2] 59)).alloc (.cells #[.string x1, .string x2] LT)) := (hbel.alloc hzr _).alloc (by simp; omega) _
      have hX : ((wr.alloc (.cells #[.string x1, .string x2] 59)).alloc (.cells #[.string x1, .string x2] LT)).heap[wr.heap.size + 1]? = some (.cells [Value.string x1, .string x2].toArray LT (0, 0)) := by have := heap_alloc_new (wr.alloc (.cells #[.string x1, .string x2] 59)) (.cells #[.string x1, .string x2] LT); simpa using this
      have hne : k < 2147483648 := by omega
      have hsz : w.heap.size ≤ ((wr.alloc (.cells #[.string x1, .string x2] 59)).alloc (.cells #[.string x1, .string x2] LT)).heap.size := hbX.size
      go_wp2_with (first
        | (at_builtin; refine list_app 119 LT i0 _ 2 32 rfl (.tmp 12) (.tmp 18) rfl rfl Tryz.underlying119 hi hz0 hz1 hz2 rfl (by decide) (by decide) w.heap.size (.slice za k zc) k (lcells (l.take k)) rfl hoX (wr.heap.size + 1) rfl [.string x1, .string x2] rfl hX (one2s x1 x2) hne hsz ?_; intro v' w5 ho5 hg5)
        | fail)
      obtain ⟨va, vc, rfl⟩ := own_form ho5
      have hb5 := hbX.grown hg5 hsz (fun q hq => (hoX.lt q hq).1)
      clear hoX hbX hX hg5
      go_wp2_with fail
      go_roundw
      case rel => exact ⟨k + 1, by omega, by go_num, by rw [hT.out]; exact ho5, hb5⟩
      case measure => simp [intOf]; omega
    · obtain rfl : k = l.length := by omega
      rw [List.take_length] at ho
      go_wp2_with fail
      go_ret
      exact ⟨_, rfl, ho, hbel⟩

abbrev LST : TypeId := 78
theorem infoU8 : (Tryz.prog.info? UT).map (fun i => (i.zero, i.size, i.bytes)) = some (some (.int .u8 0), 1, 1) := by kernel_rfl
theorem made_u8 (w : World) (n c : Nat) (hn : n ≤ c) (hc : c ≤ 1073741824) : (Instr.makeSlice 39 (.int .i64 (n : Int)) (.int .i64 (c : Int))).run Tryz.prog w = .ok (.slice (some ⟨w.heap.size, 0, none⟩) n c) (w.alloc (.cells (madeCells #[.int .u8 0] c) UT)) := by
  obtain ⟨i0, hi, hz0, hz1, hz2⟩ := info_parts infoU8
  have := run_make (P := Tryz.prog) w 39 UT i0 _ Tryz.underlying39 hi hz0 .i64 .i64 n c (by omega) (by omega) (by rw [hz2]; omega) (by omega)
  rw [this, hz1]
  simp
  rfl
theorem blk_made (w : World) (c : Nat) : Blk (w.alloc (.cells (madeCells #[.int .u8 0] c) UT)) w.heap.size (List.replicate c (.int .u8 0)) UT := by
  have := Blk.new w (List.replicate c (.int .u8 0)) UT
  have e : (List.replicate c (Value.int .u8 0)).toArray = madeCells #[.int .u8 0] c := by
    apply Array.ext
    · simp [madeCells]
    · intro i h1 h2
      simp [madeCells, Nat.mod_one]
  rw [e] at this
  exact this
theorem Chg.low {S : Nat → Prop} {w w' : World} (h : Chg (fun q => S q ∨ w.heap.size ≤ q) w w') : Chg S w w' := ⟨h.os, h.tape, h.output, h.size, fun k hk hn => h.block k hk (fun c => c.elim hn (fun c => by omega))⟩
theorem conv_buf (w : World) (g n cap : Nat) (l : List UInt8) (R : List Value) (hB : Blk w g (l.map u8v ++ R) UT) (hn : n = l.length) :
    (convert 39 9 (.slice (some ⟨g, 0, none⟩) n cap)).run Tryz.prog w = .ok (.string ⟨l.toArray⟩) w := by
  subst hn
  exact run_convert_bytes_back (P := Tryz.prog) w 39 9 UT ⟨g, 0, none⟩ cap l Tryz.underlying39 Tryz.underlying5 Tryz.underlying9 (fun j hj => by
    rw [add_cell, Nat.zero_add, hB.cell, List.getElem?_append_left (by simpa using hj), List.getElem?_map, List.getElem?_eq_getElem hj]
    rfl)
theorem yolo_any (g n cap : Nat) (l : List UInt8) (R : List Value) (w : World) (hB : Blk w g (l.map u8v ++ R) UT) (hn : n = l.length) :
    Calls Tryz.prog 103 #[.slice (some ⟨g, 0, none⟩) n cap] w fun e w' => e = .returned (.string ⟨l.toArray⟩) ∧ w = w' := by
  have hx := conv_buf w g n cap l R hB hn
  clear hn
  go_enter Tryz.func103, Tryz.ntmps103
  go_wp2_with fail
  go_ret
  exact ⟨rfl, rfl⟩
set_option maxRecDepth 100000 in
set_option maxHeartbeats 4000000 in
theorem newLabels_any (base : Nat) (v : Value) (l : List Lb) (w : World) (hO : w.ownsRow base LT 2 v l.length (lcells l)) (hl : l.length ≤ 12) (hf : FitL l) :
    Calls Tryz.prog 97 #[v] w fun e w' => e = .returned (lbsV (sortL l)) ∧ Chg (fun q => v.ownBlock = some q) w w' := by
  have hlt : ∀ g, v.ownBlock = some g → g < w.heap.size := fun g hg => by
    obtain ⟨cs, hcs⟩ := own_type hO hg
    exact lt_blk hcs
  have hR0 := Blk.new w [.string ⟨#[]⟩] LST
  have hO0 := own_alloc hO (.cells #[.string ⟨#[]⟩] LST)
  have hS := sortFunc_any base v l _ _ hO0 hl newCmp
  have hfs := hf.sort
  have hls := sortL_length l
  have hbn := lbsN_le hfs
  have hF0 : Chg (fun q => v.ownBlock = some q ∨ w.heap.size ≤ q) w (w.alloc (.cells #[.string ⟨#[]⟩] LST)) := (Chg.refl _ w).alloc _
  obtain ⟨va, vc, rfl⟩ := own_form hO
  go_enter Tryz.func97, Tryz.ntmps97
  go_wp2_with ((with_reducible refine hS.mono ?_); rintro e w1 ⟨rfl, hO1, hc1⟩)
  have hF1 := hF0.trans (hc1.mono fun q hq => .inl hq)
  have hR1 := hR0.chg hc1 (fun c => by have := hlt _ c; omega)
  rw [← hls] at hO1
  have hL1 : Ls w1 _ (sortL l) := Ls.own hO1
  have hZ := labelsSize_any _ _ _ hL1 hfs (by omega)
  rw [hls] at hO1 hZ
  refine hZ.mono ?_
  rintro e w2 ⟨rfl, hb2⟩
  have hmk := made_u8 w2 (lbsN (sortL l)) (lbsN (sortL l)) (Nat.le_refl _) (by omega)
  have hbm := below_new w2 (.cells (madeCells #[.int .u8 0] (lbsN (sortL l))) UT)
  have hBm := blk_made w2 (lbsN (sortL l))
  have hL3 := (hL1.up hb2).up hbm
  have hvg : ∀ a m c, Value.slice va (sortL l).length vc = .slice (some a) m c → a.block ≠ w2.heap.size := fun a m c e h => by
    cases e
    have := hlt a.block rfl
    have h1 := hF1.size
    have h2 := hb2.size
    omega
  have hMs := marshals_any (.slice va (sortL l).length vc) (sortL l) w2.heap.size (lbsN (sortL l)) (lbsN (sortL l)) [] (List.replicate (lbsN (sortL l)) (.int .u8 0)) [] _ hL3 hvg hfs (by omega) (by rw [List.append_nil]; exact hBm) rfl rfl (by simp) (Nat.le_refl _)
  rw [hls] at hMs
  have hF3 := (hF1.calls hb2).alloc (.cells (madeCells #[.int .u8 0] (lbsN (sortL l))) UT)
  have hR2 := hR1.chg (Chg.ofBelow hb2) (fun c => by have := hR1.lt; omega)
  have hR3 := hR2.alloc (.cells (madeCells #[.int .u8 0] (lbsN (sortL l))) UT)
  have h2z : w.heap.size < w2.heap.size := hR2.lt
  have hE := encL_length (sortL l)
  clear hBm hL3 hvg hbm hR2 hF1 hZ hL1 hO1 hR1 hb2 hS hO0 hF0 hR0
  generalize lbsN (sortL l) = N at *
  go_wp2_with fail
  refine hMs.mono ?_
  rintro e w4 ⟨rfl, hB4, hc4⟩
  have hF4 := hF3.trans (hc4.mono fun q hq => .inr (by omega))
  have hR4 := hR3.chg hc4 (fun c => by omega)
  have hy := yolo_any w2.heap.size N N (encL (sortL l)) [] w4 hB4 hE.symm
  have r0 := hR4.cell 0
  have z0 := hR4.free 0
  have hR5 := hR4.set 0 (.string ⟨(encL (sortL l)).toArray⟩)
  have hF5 := hF4.setCell ⟨w.heap.size, 0, none⟩ (.inr (Nat.le_refl _)) (.string ⟨(encL (sortL l)).toArray⟩)
  have r5 := hR5.cell 0
  clear hmk hMs hF3 hF4 hR3 hR4 hB4 hE hc4 hbn hO hfs hls hf
  simp only [List.getElem?_cons_zero, List.set_cons_zero] at r0 r5
  go_wp2_with ((with_reducible refine hy.mono ?_); rintro e w5 ⟨rfl, rfl⟩)
  exact bodyPost_ret (v := lbsV (sortL l)) (by simp [results, Tryz.results97, go_sem, r5, lbsV]) rfl ⟨rfl, hF5.low⟩

set_option maxRecDepth 100000 in
set_option maxHeartbeats 4000000 in
theorem made_any (v : Value) (l : List Lb) (w : World) (h : Ls w v l) (hl : l.length ≤ 12) (hf : FitL l) :
    Calls Tryz.prog 45 #[v] w fun e w' => e = .returned (lbsV (sortL l)) ∧ Below w.heap.size w w' := by
  have hb0 := below_new w (.cells #[.string ⟨#[]⟩] LST)
  have hR0 := Blk.new w [.string ⟨#[]⟩] LST
  have hP := pairs_any v l _ (h.up hb0) (by omega)
  obtain ⟨ao, cap, rfl, h1, h2⟩ := h.form
  go_enter Tryz.func45, Tryz.ntmps45
  go_wp2_with ((with_reducible refine hP.mono ?_); rintro e w1 ⟨x, rfl, hO, hb1⟩; obtain ⟨xa, xc, rfl⟩ := own_form hO)
  have hN := newLabels_any _ _ l w1 hO hl hf
  have hlow : ∀ k, (Value.slice xa l.length xc).ownBlock = some k → w.heap.size < k := fun k hk => by
    have := (hO.lt k hk).1
    simp at this
    omega
  have hR1 := hR0.chg (Chg.ofBelow hb1) (fun c => by simp at c; omega)
  have hbw := hb0.trans (hb1.mono hb0.size)
  refine hN.mono ?_
  rintro e w2 ⟨rfl, hc2⟩
  have hb2 := hbw.trans (hc2.below w.heap.size hbw.size (fun k hk c => by have := hlow k c; omega))
  have hR2 := hR1.chg hc2 (fun c => by have := hlow _ c; omega)
  have r0 := hR2.cell 0
  have z0 := hR2.free 0
  have hR3 := hR2.set 0 (.string ⟨(encL (sortL l)).toArray⟩)
  have hb3 := hb2.setCell (p := ⟨w.heap.size, 0, none⟩) (Nat.le_refl _) (.string ⟨(encL (sortL l)).toArray⟩)
  have r3 := hR3.cell 0
  simp only [List.getElem?_cons_zero, List.set_cons_zero] at r0 r3
  unfold lbsV
  clear hN hO hR0 hR1 hR2 hR3 hb0 hb1 hbw hb2 hP
  go_wp2_with fail
  exact bodyPost_ret (v := .agg #[.string ⟨(encL (sortL l)).toArray⟩]) (by simp [results, Tryz.results45, go_sem, r3]) rfl ⟨rfl, hb3⟩
end Go.Proofs.YtapoodnjkkhggaaGreat
