/-
  Labels.Range; impl.unmade.
-/
import Derived.Test.YtapoodnjkkhggaaGreatNew
import Derived.Test.YtapoodnjkkhggaaGreatDecS
import Derived.Lib.ConvBytes
import Derived.Laws.IdiomStrings
namespace Go.Proofs.YtapoodnjkkhggaaGreat
set_option linter.unusedSimpArgs false
set_option linter.unusedVariables false
open Go.RowKit

/-- where the encoding of the labels from k on begins -/
def posL (l : List Lb) (k : Nat) : Nat := (encL (l.take k)).length
theorem posL_zero (l : List Lb) : posL l 0 = 0 := rfl
theorem posL_end (l : List Lb) : posL l l.length = (encL l).length := by unfold posL; rw [List.take_length]
theorem posL_next {l : List Lb} {k : Nat} (h : k < l.length) : posL l (k + 1) = posL l k + (strE l[k].1).length + (strE l[k].2).length := by
  unfold posL
  rw [take_next h, encL_append, List.length_append, encL_one, List.length_append]
  omega
theorem posL_at (l : List Lb) (k : Nat) (h : k ≤ l.length) : From ⟨(encL l).toArray⟩ (posL l k) (encL (l.drop k)) := by
  have e : encL l = encL (l.take k) ++ encL (l.drop k) := by rw [← encL_append, List.take_append_drop]
  have h0 := From.start (encL l)
  have h1 : From ⟨(encL l).toArray⟩ 0 (encL (l.take k) ++ encL (l.drop k)) := by rw [← e]; exact h0
  have := h1.skip
  rw [Nat.zero_add] at this
  exact this
theorem posL_lt {l : List Lb} {k : Nat} (h : k < l.length) : posL l k < (encL l).length := by
  have h1 := posL_next h
  have h2 : posL l (k + 1) ≤ (encL l).length := by
    have := (posL_at l (k + 1) h).2
    exact this
  have := szN_pos l[k].1.size
  have := strE_length l[k].1
  omega
set_option maxRecDepth 100000 in
set_option maxHeartbeats 4000000 in
theorem range_any (l : List Lb) (hf : FitL l) (hd : (encL l).length ≤ 1073741824) (g : FuncId) (caps : Array Value) (W : World) (P : Nat → World → Prop) (hg : ∀ args w, (callFunc g args).run Tryz.prog w = .ok (.enter g args) w)
    (hP0 : P 0 (W.alloc (.cells #[.string ⟨(encL l).toArray⟩] LST)))
    (stab : ∀ k w w', P k w → Below w.heap.size w w' → P k w')
    (box : ∀ k w, P k w → w.cell? ⟨W.heap.size, 0, none⟩ = some (.string ⟨(encL l).toArray⟩))
    (step : ∀ k (hk : k < l.length) w, P k w → Calls Tryz.prog g (#[.agg #[.string l[k].1, .string l[k].2]] ++ caps) w fun e w' => e = .returned (.tuple #[]) ∧ P (k + 1) w') :
    Calls Tryz.prog 101 #[lbsV l, .func (.func g) #[] caps] W fun e w' => e = .returned (.tuple #[]) ∧ P l.length w' := by
  unfold lbsV
  have hsz : (⟨(encL l).toArray⟩ : ByteArray).size = (encL l).length := by simp [ByteArray.size]
  have hat := fun k hk => posL_at l k hk
  have hend := posL_end l
  generalize hdd : (⟨(encL l).toArray⟩ : ByteArray) = d at *
  have HE := Lib.hid hend
  have HS := Lib.hid hsz
  clear hend hsz hdd
  go_enter Tryz.func101, Tryz.ntmps101
  go_wp2_with fail
  go_loopw [4] (fun i wr => ∃ k : Nat, k ≤ l.length ∧ i = .int .i64 (posL l k : Nat) ∧ P k wr) (fun i _ => d.size - (intOf i).toNat)
  case atStart => exact ⟨0, Nat.zero_le _, rfl, hP0⟩
  case round => as_aux_lemma =>
    obtain ⟨k, hk, rfl, hP⟩ := hrel
    have c0 := box k wr hP
    by_cases hlt : k < l.length
    · have hA := hat k hk
      have hl0 := posL_lt hlt
      rw [← HS.out] at hl0
      have hfx := hf _ (List.getElem_mem hlt)
      have hN := posL_next hlt
      rw [List.drop_eq_getElem_cons hlt, encL_cons] at hA
      have hA2 := hA.skip
      have hst := step k hlt
      have hD1 := decStr_any d l[k].1 (posL l k) _ wr hA hfx.1 (by rw [HS.out]; exact hd)
      have hD2 := fun w => decStr_any d l[k].2 (posL l k + (strE l[k].1).length) _ w hA2 hfx.2 (by rw [HS.out]; exact hd)
      have HN := Lib.hid hN
      have hq := strE_length l[k].1
      have hq2 := szN_pos l[k].1.size
      have hle2 : posL l (k + 1) ≤ d.size := (hat (k + 1) hlt).2
      have HL := Lib.hid (show posL l k < posL l (k + 1) ∧ posL l (k + 1) ≤ d.size from ⟨by omega, hle2⟩)
      clear hA hA2 hN hq hq2 hfx hat hle2
      generalize hp2 : posL l (k + 1) = p2 at *
      generalize posL l k = p at *
      generalize l[k] = x at *
      obtain ⟨x1, x2⟩ := x
      simp only at hst hD1 hD2 HN
      generalize (strE x1).length = q1 at *
      generalize (strE x2).length = q2 at *
      have i1 : (p : Int) < (d.size : Int) := by omega
      have hD3 : ∀ w, Calls Tryz.prog 99 #[.string d, .int .i64 ((p : Int) + (q1 : Int))] w fun e w' => e = .returned (.tuple #[.string x2, .int .i64 p2]) ∧ Below w.heap.size w w' := fun w => by
        have := hD2 w
        rw [show ((p + q1 : Nat) : Int) = (p : Int) + (q1 : Int) from Int.natCast_add _ _, ← HN.out] at this
        exact this
      clear hD2
      go_wp2_with (first
        | ((with_reducible refine hD1.mono ?_); rintro e w1 ⟨rfl, hb1⟩; have hP1 := stab _ _ _ hP hb1; have c1 := box k w1 hP1)
        | ((with_reducible refine (hD3 _).mono ?_); rintro e w2 ⟨rfl, hb2⟩; have hP2 := stab _ _ _ hP1 hb2; have c2 := box k w2 hP2)
        | ((with_reducible refine (hst _ hP2).mono ?_); rintro e w3 ⟨rfl, hP3⟩)
        | fail)
      go_roundw
      case rel => exact ⟨k + 1, by omega, by rw [hp2], hP3⟩
      case measure => simp [intOf]; have := HL.out; omega
    · obtain rfl : k = l.length := by omega
      have i1 : ¬ (d.size : Int) < (d.size : Int) := by omega
      rw [HE.out, ← HS.out]
      go_wp2_with fail
      go_end0
      exact ⟨rfl, hP⟩

theorem conv_there (w : World) (s : ByteArray) : ∃ v W, (convert 9 39 (.string s)).run Tryz.prog w = .ok v W ∧ (convert 39 9 v).run Tryz.prog W = .ok (.string s) W ∧ Below w.heap.size w W ∧ W.heap.size = w.heap.size + 1 ∧ ∃ a n c, v = .slice a n c := by
  refine ⟨_, _, Lib.run_convert_string_bytes w 9 39 5 s Tryz.underlying9 Tryz.underlying39 Tryz.underlying5, ?_, ?_, Lib.bytesWorld_size _ _ _, _, _, _, rfl⟩
  · have := run_convert_bytes_back (P := Tryz.prog) (Lib.bytesWorld w 5 s) 39 9 5 ⟨w.heap.size, 0, none⟩ (grownCap w s.size 0 5) s.data.toList Tryz.underlying39 Tryz.underlying5 Tryz.underlying9 (fun j hj => by
      rw [add_cell, Nat.zero_add, Lib.bytesWorld_cell w 5 s j (by rw [Array.length_toList] at hj; exact hj), List.getD_eq_getElem?_getD, List.getElem?_eq_getElem hj]
      rfl)
    rw [Array.length_toList] at this
    exact this
  · exact ⟨rfl, rfl, rfl, by rw [Lib.bytesWorld_size]; omega, fun k hk => Lib.bytesWorld_at_old w _ s k hk⟩
abbrev ILT : TypeId := 59
abbrev ILS : TypeId := 23
set_option maxRecDepth 100000 in
set_option maxHeartbeats 4000000 in
theorem unm1_any (c base n : Nat) (v : Value) (xs : List Value) (x1 x2 : ByteArray) (w : World) (hB : Blk w c [v] ILS) (hO : w.ownsRow base ILT 2 v n xs) (hcb : c < base) (hbw : base ≤ w.heap.size) (hn : n < 2147483648) :
    Calls Tryz.prog 102 #[.agg #[.string x1, .string x2], .pointer (some ⟨c, 0, none⟩)] w fun e w' => e = .returned (.tuple #[]) ∧ (∃ v', Blk w' c [v'] ILS ∧ w'.ownsRow base ILT 2 v' (n + 1) (xs ++ [.string x1, .string x2])) ∧ Chg (fun q => q = c ∨ some q = v.ownBlock) w w' := by
  obtain ⟨i0, hi, hz0, hz1, hz2⟩ := info_parts infoLb2
  obtain ⟨va, vc, rfl⟩ := own_form hO
  have hclt := hB.lt
  have hR := Blk.new w [.string x1, .string x2] LT
  obtain ⟨v1, W2, A1, A2, hb2, hz2', a1, n1, c1, rfl⟩ := conv_there (w.alloc (.cells #[.string x1, .string x2] LT)) x1
  have hR2 := hR.chg (Chg.ofBelow hb2) (fun c => by simp at c; omega)
  obtain ⟨v2, W3, B1, B2, hb3, hz3', a2, n2, c2, rfl⟩ := conv_there W2 x2
  have r0 := hR.cell 0
  have r1 := hR2.cell 1
  simp only [List.getElem?_cons_zero, List.getElem?_cons_succ] at r0 r1
  have hC0 : Chg (fun _ => False) w (w.alloc (.cells #[.string x1, .string x2] LT)) := (Chg.refl _ w).alloc _
  have hC2 := hC0.calls hb2
  have hC3 := hC2.calls hb3
  have q0 := hB.chg hC0 (fun h => h)
  have q2 := hB.chg hC2 (fun h => h)
  have q3 := (hB.chg hC3 (fun h => h)).alloc (.cells #[.string x1, .string x2] ILT)
  have hO4 := own_alloc (own_chg hO hC3 (fun _ _ _ h => h)) (.cells #[.string x1, .string x2] ILT)
  have hX := heap_alloc_new W3 (.cells #[.string x1, .string x2] ILT)
  have hC4 : Chg (fun q => q = c ∨ some q = (Value.slice va n vc).ownBlock) w (W3.alloc (.cells #[.string x1, .string x2] ILT)) := (hC3.mono (fun _ h => h.elim)).alloc _
  have d0 := q0.cell 0
  have d2 := q2.cell 0
  simp only [List.getElem?_cons_zero] at d0 d2
  have hbs : base ≤ (W3.alloc (.cells #[.string x1, .string x2] ILT)).heap.size := Nat.le_trans hbw hC4.size
  clear hR hR2 hb2 hb3 hz2' hz3' hC0 hC2 hC3 q0 q2 hO hB
  go_enter Tryz.func102, Tryz.ntmps102
  go_wp2_with (first
    | (at_builtin; refine list_app ILS ILT i0 _ 2 32 rfl (.tmp 3) (.tmp 13) rfl rfl Tryz.underlying23 hi hz0 hz1 hz2 rfl (by decide) (by decide) base (.slice va n vc) n xs rfl hO4 W3.heap.size rfl [.string x1, .string x2] rfl hX (one2s x1 x2) hn hbs ?_; intro v' w5 ho5 hg5; obtain ⟨ya, yc, rfl⟩ := own_form ho5; have q5 := q3.chg (Chg.ofGrown hg5) (fun h => by have := (hO4.lt c h.symm).1; omega); have d5 := q5.cell 0; have z5 := q5.free 0; have q6 := q5.set 0 (.slice ya (n + 1) yc))
    | fail)
  go_end0
  have hC5 := hC4.grown hg5 (fun q hq => .inr hq.symm)
  have hC6 := hC5.setCell ⟨c, 0, none⟩ (.inl rfl) (.slice ya (n + 1) yc)
  refine ⟨rfl, ⟨_, q6, own_chg ho5 (chg_set w5 c 0 _) (fun g hg _ h => by omega)⟩, hC6⟩
end Go.Proofs.YtapoodnjkkhggaaGreat
