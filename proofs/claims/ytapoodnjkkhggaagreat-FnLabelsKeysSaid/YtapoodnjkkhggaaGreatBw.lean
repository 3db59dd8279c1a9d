/-
  BytesWithLabels: the encoding of the labels that are among some rising names.
-/
import Derived.Test.YtapoodnjkkhggaaGreatSrcA
namespace Go.Proofs.YtapoodnjkkhggaaGreat
set_option linter.unusedSimpArgs false
set_option linter.unusedVariables false
open Go.RowKit

theorem own_dn {a b : World} {base n size : Nat} {x : Value} {t : TypeId} {xs : List Value} (hx : a.ownsRow base t size x n xs) (h : Below a.heap.size a b) : b.ownsRow base t size x n xs := own_below hx h (fun g hg => (hx.lt g hg).2)
theorem rise_lt {l : List ByteArray} (R : Rise l) {i : Nat} (hi : i < l.length) : ∀ {j : Nat} (hj : j < l.length), i < j → lt l[i] l[j] = true
  | 0, hj, h => absurd h (by omega)
  | j + 1, hj, h => by
    by_cases e : i = j
    · subst e; exact R i hj
    · exact lt_trans (rise_lt R hi (by omega) (by omega)) (R j hj)
theorem amg_lo {names : List ByteArray} {x : ByteArray} (h : ∀ i (hi : i < names.length), lt names[i] x = true) : amg names x = false := by
  unfold amg
  rw [List.any_eq_false]
  intro s hs
  obtain ⟨i, hi, rfl⟩ := List.getElem_of_mem hs
  simpa using lt_ne (h i hi)
theorem amg_at {names : List ByteArray} (R : Rise names) {x : ByteArray} {j : Nat} (hj : j < names.length) (hlo : ∀ i (hi : i < names.length), i < j → lt names[i] x = true) (hhi : lt names[j] x = false) : amg names x = decide (names[j] = x) := by
  by_cases e : names[j] = x
  · rw [decide_eq_true e]
    unfold amg
    rw [List.any_eq_true]
    exact ⟨_, List.getElem_mem hj, by simpa using e⟩
  · rw [decide_eq_false e]
    unfold amg
    rw [List.any_eq_false]
    intro s hs
    obtain ⟨i, hi, rfl⟩ := List.getElem_of_mem hs
    have : names[i] ≠ x := by
      rcases Nat.lt_trichotomy i j with c | c | c
      · exact lt_ne (hlo i hi c)
      · subst c; exact e
      · intro q
        have := rise_lt R hj hi c
        rw [q, hhi] at this
        cases this
    simpa using this
/-- all names before j are before the labels from k on -/
def LoJ (names : List ByteArray) (L : List Lb) (j k : Nat) : Prop := ∀ i (hi : i < names.length), i < j → ∀ m (hm : m < L.length), k ≤ m → lt names[i] L[m].1 = true
def LoX (names : List ByteArray) (x : ByteArray) (j : Nat) : Prop := ∀ i (hi : i < names.length), i < j → lt names[i] x = true
theorem LoX.next {names : List ByteArray} {x : ByteArray} {j : Nat} (h : LoX names x j) (hj : j < names.length) (e : lt names[j] x = true) : LoX names x (j + 1) := fun i hi c => by
  by_cases q : i = j
  · subst q; exact e
  · exact h i hi (by omega)
theorem LoJ.next {names : List ByteArray} {L : List Lb} {j k : Nat} (hA : Asc L) (hk : k < L.length) (h : LoX names L[k].1 j) : LoJ names L j (k + 1) := fun i hi c m hm hkm =>
  lt_trans (h i hi c) (List.pairwise_iff_getElem.1 hA k m hk hm (by omega))
theorem kept_drop {names : List ByteArray} {L : List Lb} {k : Nat} (hA : Asc L) (hk : k < L.length) (h : LoX names L[k].1 names.length) : kept names true L = kept names true (L.take k) := by
  have e : kept names true L = kept names true (L.take k) ++ kept names true (L.drop k) := by
    unfold kept; rw [← List.filter_append, List.take_append_drop]
  have e2 : kept names true (L.drop k) = [] := by
    unfold kept
    rw [List.filter_eq_nil_iff]
    intro y hy
    obtain ⟨m, hm, rfl⟩ := List.getElem_of_mem hy
    rw [List.length_drop] at hm
    rw [List.getElem_drop]
    have : amg names L[k + m].1 = false := amg_lo (fun i hi => by
      by_cases c : m = 0
      · subst c; exact h i hi hi
      · exact lt_trans (h i hi hi) (List.pairwise_iff_getElem.1 hA k (k + m) hk (by omega) (by omega)))
    rw [this]; decide
  rw [e, e2, List.append_nil]
theorem kept_next (names : List ByteArray) (b : Bool) {L : List Lb} {k : Nat} (hk : k < L.length) : kept names b (L.take (k + 1)) = kept names b (L.take k) ++ (if amg names L[k].1 == b then [L[k]] else []) := by
  unfold kept
  rw [take_next hk, List.filter_append]
  congr 1
  simp [List.filter_cons]
theorem kept_fit {names : List ByteArray} {b : Bool} {L : List Lb} (h : FitL L) : FitL (kept names b L) := fun x hx => h x (List.mem_filter.1 hx).1
theorem encL_le (names : List ByteArray) (b : Bool) (L : List Lb) : (encL (kept names b L)).length ≤ (encL L).length := by
  induction L with
  | nil => simp [kept]
  | cons x L ih =>
    unfold kept at *
    rw [List.filter_cons]
    split
    · rw [encL_cons, encL_cons]; simp only [List.length_append]; omega
    · rw [encL_cons]; simp only [List.length_append]; omega
theorem take_kept_le (names : List ByteArray) (b : Bool) (L : List Lb) (k : Nat) : (encL (kept names b (L.take k))).length ≤ (encL L).length := by
  refine Nat.le_trans (encL_le _ _ _) ?_
  have e : encL L = encL (L.take k) ++ encL (L.drop k) := by rw [← encL_append, List.take_append_drop]
  rw [e, List.length_append]
  omega
set_option maxRecDepth 100000 in
set_option maxHeartbeats 8000000 in
theorem bwith_any (L : List Lb) (u : Value) (names : List ByteArray) (w : World) (g : Strs w u names) (hA : Asc L) (hR : Rise names) (hf : FitL L) (hd : (encL L).length ≤ 1073741824) (hn : names.length ≤ 1000000) :
    Calls Tryz.prog 47 #[lbsV L, .slice none 0 0, u] w fun e w' => ∃ x, e = .returned x ∧ w'.ownsRow w.heap.size UT 1 x (encL (kept names true L)).length ((encL (kept names true L)).map u8v) ∧ Below w.heap.size w w' := by
  unfold lbsV
  have hsz : (⟨(encL L).toArray⟩ : ByteArray).size = (encL L).length := by simp [ByteArray.size]
  have hat := fun k hk => posL_at L k hk
  have hend := posL_end L
  have hKl := fun k => take_kept_le names true L k
  generalize hdd : (⟨(encL L).toArray⟩ : ByteArray) = d at *
  have HE := Lib.hid hend
  have HS := Lib.hid hsz
  rw [← hsz] at hd hKl
  clear hend hsz hdd
  have hB0 := Blk.new w [.string d] LST
  have hb0 := below_new w (.cells #[.string d] LST)
  have hz0 : w.heap.size < (w.alloc (.cells #[.string d] LST)).heap.size := by simp
  obtain ⟨bo, bcap, rfl, g1, g2⟩ := g.form
  go_enter Tryz.func47, Tryz.ntmps47
  go_wp2_with fail
  go_loopw [7, 8, 9] (fun bv jv pv wr => ∃ k j : Nat, k ≤ L.length ∧ j ≤ names.length ∧ jv = .int .i64 j ∧ pv = .int .i64 (posL L k : Nat) ∧ Hid (LoJ names L j k) ∧ wr.ownsRow (w.heap.size + 1) UT 1 bv (encL (kept names true (L.take k))).length ((encL (kept names true (L.take k))).map u8v) ∧ Blk wr w.heap.size [.string d] LST ∧ Below w.heap.size w wr) (fun _ _ pv _ => d.size - (intOf pv).toNat)
  case atStart => exact ⟨0, 0, Nat.zero_le _, Nat.zero_le _, rfl, rfl, Lib.hid (fun i _ c => absurd c (by omega)), World.ownsRow_nil _ _ _ _, hB0, hb0⟩
  case round =>
    obtain ⟨k, j, hk, hj, rfl, rfl, hlo, ho, hBx, hbel⟩ := hrel
    obtain ⟨za, zc, rfl⟩ := own_form ho
    have hbxlt := hBx.lt
    have c0 := hBx.cell 0
    simp only [List.getElem?_cons_zero] at c0
    by_cases hlt : k < L.length
    · have hAt := hat k hk
      have hl0 := posL_lt hlt
      rw [← HS.out] at hl0
      have hfx := hf _ (List.getElem_mem hlt)
      have hN := posL_next hlt
      rw [List.drop_eq_getElem_cons hlt, encL_cons] at hAt
      have hA2 := hAt.skip
      have hcut := (show From d (posL L k) ((⟨(strE L[k].1 ++ strE L[k].2).toArray⟩ : ByteArray).data.toList ++ encL (L.drop (k + 1))) from by simpa [List.append_assoc] using hAt).cut
      have hD1 := decStr_any d L[k].1 (posL L k) _ wr hAt hfx.1 hd
      have hD2 := fun w => decStr_any d L[k].2 (posL L k + (strE L[k].1).length) _ w hA2 hfx.2 hd
      have HN := Lib.hid hN
      have hq := strE_length L[k].1
      have hq2 := szN_pos L[k].1.size
      have hle2 : posL L (k + 1) ≤ d.size := (hat (k + 1) hlt).2
      have HL := Lib.hid (show posL L k < posL L (k + 1) ∧ posL L (k + 1) ≤ d.size from ⟨by omega, hle2⟩)
      have HX0 := Lib.hid (show LoX names L[k].1 j from fun i hi c => hlo.out i hi c k hlt (Nat.le_refl _))
      have HNX := Lib.hid (fun (j' : Nat) (h : LoX names L[k].1 j') => LoJ.next hA hlt h)
      have HBR := Lib.hid (fun (h : LoX names L[k].1 names.length) => kept_drop hA hlt h)
      have HKN := Lib.hid (kept_next names true hlt)
      have HK1 := Lib.hid (hKl (k + 1))
      have HK0 := Lib.hid (hKl k)
      rw [show (⟨(strE L[k].1 ++ strE L[k].2).toArray⟩ : ByteArray).size = (strE L[k].1).length + (strE L[k].2).length from by simp [ByteArray.size], ← Nat.add_assoc, ← hN] at hcut
      clear hAt hA2 hN hq hq2 hfx hat hle2 hlo hKl
      generalize hp2 : posL L (k + 1) = p2 at *
      generalize posL L k = p at *
      generalize L[k] = x at *
      obtain ⟨x1, x2⟩ := x
      simp only at hD1 hD2 HN HX0 HNX HBR HKN hcut
      have HE2 := Lib.hid (encL_one (x1, x2))
      generalize hs : (⟨(strE x1 ++ strE x2).toArray⟩ : ByteArray) = sx at *
      have HSX := Lib.hid (show sx.data.toList = strE x1 ++ strE x2 from by rw [← hs])
      have HSZ := Lib.hid (show sx.size = (strE x1).length + (strE x2).length from by rw [← hs]; simp [ByteArray.size])
      clear hs
      generalize hl1 : (strE x1).length = q1 at *
      generalize hl2 : (strE x2).length = q2 at *
      generalize kept names true (L.take k) = KK at *
      have i1 : (p : Int) < (d.size : Int) := by omega
      have hD3 : ∀ w, Calls Tryz.prog 99 #[.string d, .int .i64 ((p : Int) + (q1 : Int))] w fun e w' => e = .returned (.tuple #[.string x2, .int .i64 p2]) ∧ Below w.heap.size w w' := fun w => by
        have := hD2 w
        rw [show ((p + q1 : Nat) : Int) = (p : Int) + (q1 : Int) from Int.natCast_add _ _, ← HN.out] at this
        exact this
      clear hD2
      go_wp2_with fail
      (with_reducible refine hD1.mono ?_)
      rintro e w1 ⟨rfl, hb1⟩
      have hB1 := hBx.chg (Chg.ofBelow hb1) (fun c => absurd (Nat.lt_of_lt_of_le hBx.lt c) (Nat.lt_irrefl _))
      have c1 := hB1.cell 0
      simp only [List.getElem?_cons_zero] at c1
      go_wp2_with fail
      (with_reducible refine (hD3 _).mono ?_)
      rintro e w2 ⟨rfl, hb2⟩
      have hB2 := hB1.chg (Chg.ofBelow hb2) (fun c => absurd (Nat.lt_of_lt_of_le hB1.lt c) (Nat.lt_irrefl _))
      have c2 := hB2.cell 0
      simp only [List.getElem?_cons_zero] at c2
      have ho2 := own_dn (own_dn ho hb1) hb2
      have hbel2 := bnx (bnx hbel hb1) hb2
      have g2' := g.up hbel2
      clear hD1 hD3 ho hB1 hBx c0 c1 hb1 hb2 hbel g
      go_wp2_with fail
      go_loopw [8] (fun jv wi => ∃ j' : Nat, j' ≤ names.length ∧ jv = .int .i64 j' ∧ Hid (LoX names x1 j') ∧ wi = w2) (fun jv _ => names.length - (intOf jv).toNat)
      case atStart => exact ⟨j, hj, rfl, HX0, rfl⟩
      case round =>
        obtain ⟨j', hj', rfl, hx, rfl⟩ := hrel
        by_cases hjl : j' < names.length
        · obtain ⟨b, off, rfl, hbB, hcc⟩ := g2'.at_ (by omega)
          have d0 := hcc j' hjl
          have j0 : (0 : Int) ≤ (j' : Int) := by omega
          have j1 : (j' : Int) < (names.length : Int) := by omega
          have j2 : ((j' : Int) == (names.length : Int)) = false := by rw [beq_eq_false_iff_ne]; omega
          have HXN := Lib.hid (fun (e : lt names[j'] x1 = true) => LoX.next hx.out hjl e)
          have HAM := Lib.hid (fun (e : lt names[j'] x1 = false) => amg_at hR hjl hx.out e)
          clear hcc
          generalize names[j'] = nm at *
          cases q : lt nm x1
          · have q' : Op.bytesLess nm.toList x1.toList = false := q
            have HAM := Lib.hid (HAM.out q)
            clear q
            have HLJ := Lib.hid (HNX.out j' hx.out)
            by_cases e : nm = x1
            · have e' : (x1.toList == nm.toList) = true := by rw [e]; simp
              have HKK := HKN.out
              rw [HAM.out, e] at HKK
              simp only [decide_true, beq_self_eq_true, if_true] at HKK
              have HKK := Lib.hid HKK
              have hlen := HK1.out
              rw [HKK.out, encL_append, List.length_append, HE2.out, List.length_append, hl1, hl2] at hlen
              obtain ⟨v3, w3, hr, ho3, hg3⟩ := app_cut ho2 sx (by rw [HSZ.out]; omega) (by have := hB2.lt; omega)
              have hB3 := hB2.chg (Chg.ofGrown hg3) (fun c => by have := (ho2.lt w.heap.size c.symm).1; omega)
              have hbel3 := hbel2.grown hg3 hbel2.size (fun q hq => by have := (ho2.lt q hq).1; omega)
              have HR := Lib.hid hr
              obtain ⟨ya, yc, rfl⟩ := own_form ho3
              clear e hr
              have s0 : (0 : Int) ≤ (p : Int) := by omega
              have s1 : (p : Int) ≤ (p2 : Int) := by have := HL.out; omega
              have s2 : (p2 : Int) ≤ (d.size : Int) := by have := HL.out; omega
              go_wp2_with (first
                | (at_builtin; refine list_run 39 9 rfl (.tmp 57) (.tmp 62) rfl rfl rfl rfl HR.out ?_)
                | fail)
              have HO3 : w3.ownsRow (w.heap.size + 1) UT 1 (.slice ya ((encL KK).length + sx.size) yc) (encL (KK ++ [(x1, x2)])).length ((encL (KK ++ [(x1, x2)])).map u8v) := by
                rw [encL_append, HE2.out, List.length_append, List.map_append, List.length_append, hl1, hl2, ← HSZ.out, ← HSX.out]
                exact ho3
              go_roundw
              case rel => exact ⟨k + 1, j', hlt, hj', rfl, by rw [hp2], HLJ, by rw [HKK.out]; exact HO3, hB3, hbel3⟩
              case measure => simp [intOf]; have := HL.out; omega
            · have e' : (x1.toList == nm.toList) = false := str_ne (fun c => e c.symm)
              have HKK := HKN.out
              rw [HAM.out, decide_eq_false e] at HKK
              simp only [Bool.false_eq_true, if_false, List.append_nil, show (false == true) = false from rfl] at HKK
              have HKK := Lib.hid HKK
              clear e
              go_wp2_with fail
              go_roundw
              case rel => exact ⟨k + 1, j', hlt, hj', rfl, by rw [hp2], HLJ, by rw [HKK.out]; exact ho2, hB2, hbel2⟩
              case measure => simp [intOf]; have := HL.out; omega
          · have q' : Op.bytesLess nm.toList x1.toList = true := q
            have HXN := Lib.hid (HXN.out q)
            clear q
            go_wp2_with fail
            go_roundw
            case rel => exact ⟨j' + 1, hjl, by go_num, HXN, trivial⟩
            case measure => simp [intOf]; omega
        · obtain rfl : j' = names.length := by omega
          have HBR := Lib.hid (HBR.out hx.out)
          have j2 : ¬ (names.length : Int) < (names.length : Int) := by omega
          have HO := Lib.hid (own_base ho2 (Nat.le_succ _))
          clear ho2
          go_wp2_with fail
          go_ret
          refine ⟨_, rfl, ?_, hbel2⟩
          rw [HBR.out]
          exact HO.out
    · obtain rfl : k = L.length := by omega
      have hK : L.take L.length = L := List.take_length
      rw [hK] at ho
      have i1 : ¬ (d.size : Int) < (d.size : Int) := by omega
      have HO := Lib.hid (own_base ho (Nat.le_succ _))
      clear ho
      rw [HE.out, ← HS.out, hK]
      go_wp2_with fail
      go_ret
      exact ⟨_, rfl, HO.out, hbel⟩
end Go.Proofs.YtapoodnjkkhggaaGreat
