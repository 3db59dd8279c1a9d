/-
  labels.Compare: its walk.
-/
import Derived.Test.YtapoodnjkkhggaaGreatCmpL
import Derived.Test.YtapoodnjkkhggaaGreatGet
import Derived.BigQuiet
namespace Go.Proofs.YtapoodnjkkhggaaGreat
set_option linter.unusedSimpArgs false
set_option linter.unusedVariables false
open Go.RowKit

/-- what a sign says -/
def Sgn (z b : Int) : Prop := (z < 0 ↔ b = -1) ∧ (0 < z ↔ b = 1)
theorem befP_begin {l m : List Lb} (hf : FitL l) (hg : FitL m) (hle : (encL l).length ≤ (encL m).length) (heq : ∀ j (hj : j < (encL l).length), (encL l)[j] = (encL m)[j]'(by omega)) : Sgn (((encL l).length : Int) - ((encL m).length : Int)) (befP l m) := by
  obtain ⟨c, hc⟩ := begins hf.ents hg.ents hle heq
  have hlen : (encL m).length = (encL l).length + (encE c).length := by
    show (encE (ents m)).length = _
    rw [hc, encE_append, List.length_append]; rfl
  rw [← befP_eq, hc]
  cases c with
  | nil =>
    rw [List.append_nil, cmpE_self]
    simp [encE] at hlen
    unfold Sgn
    omega
  | cons t c =>
    rw [cmpE_short]
    have : 0 < (encE (t :: c)).length := by rw [encE_cons, List.length_append, strE_length]; have := szN_pos t.size; omega
    unfold Sgn
    omega
theorem befP_begin' {l m : List Lb} (hf : FitL l) (hg : FitL m) (hle : (encL m).length ≤ (encL l).length) (heq : ∀ j (hj : j < (encL m).length), (encL l)[j]'(by omega) = (encL m)[j]) : Sgn (((encL l).length : Int) - ((encL m).length : Int)) (befP l m) := by
  obtain ⟨c, hc⟩ := begins hg.ents hf.ents hle (fun j hj => (heq j hj).symm)
  have hlen : (encL l).length = (encL m).length + (encE c).length := by
    show (encE (ents l)).length = _
    rw [hc, encE_append, List.length_append]; rfl
  rw [← befP_eq, hc]
  cases c with
  | nil =>
    rw [List.append_nil, cmpE_self]
    simp [encE] at hlen
    unfold Sgn
    omega
  | cons t c =>
    rw [cmpE_long]
    have : 0 < (encE (t :: c)).length := by rw [encE_cons, List.length_append, strE_length]; have := szN_pos t.size; omega
    unfold Sgn
    omega
theorem posE_full (es : List ByteArray) : posE es es.length = (encE es).length := by unfold posE; rw [List.take_length]
theorem befP_differ {l m : List Lb} {q : Nat} {t : ByteArray} {c : List ByteArray} (hq : q < (ents l).length) (hm : ents m = (ents l).take q ++ t :: c) (hne : t ≠ (ents l)[q]) (z : Int) (hz : z = if lt (ents l)[q] t then -1 else 1) : Sgn z (befP l m) := by
  have e : ents l = (ents l).take q ++ (ents l)[q] :: (ents l).drop (q + 1) := by rw [← List.drop_eq_getElem_cons hq, List.take_append_drop]
  have : befP l m = if lt (ents l)[q] t then -1 else 1 := by
    rw [← befP_eq, hm]
    conv => lhs; rw [e]
    rw [List.take_left' (by rw [List.length_take]; omega)]
    exact cmpE_pre _ (Ne.symm hne)
  rw [this, hz]
  unfold Sgn
  split <;> decide
theorem byte_get (l : List UInt8) (j : Nat) (hj : j < l.length) (hd : j < (⟨l.toArray⟩ : ByteArray).size) : (⟨l.toArray⟩ : ByteArray)[j]'hd = l[j] := by
  show l.toArray[j] = l[j]
  simp
set_option maxRecDepth 100000 in
set_option maxHeartbeats 4000000 in
theorem compare_any (l m : List Lb) (w : World) (hf : FitL l) (hg : FitL m) (hdl : (encL l).length ≤ 1073741824) (hdm : (encL m).length ≤ 1073741824) :
    Calls Tryz.prog 84 #[lbsV l, lbsV m] w fun e w' => ∃ z : Int, e = .returned (.int .i64 z) ∧ Sgn z (befP l m) ∧ Below w.heap.size w w' := by
  unfold lbsV
  obtain ⟨d, hde⟩ : ∃ d : ByteArray, d = ⟨(encL l).toArray⟩ := ⟨_, rfl⟩
  obtain ⟨d', hde'⟩ : ∃ d : ByteArray, d = ⟨(encL m).toArray⟩ := ⟨_, rfl⟩
  have hs1 : d.size = (encL l).length := by subst hde; simp [ByteArray.size]
  have hs2 : d'.size = (encL m).length := by subst hde'; simp [ByteArray.size]
  have hg1 : ∀ j (hj : j < (encL l).length) (hd : j < d.size), d[j]'hd = (encL l)[j] := by subst hde; exact fun j hj hd => byte_get (encL l) j hj hd
  have hg2 : ∀ j (hj : j < (encL m).length) (hd : j < d'.size), d'[j]'hd = (encL m)[j] := by subst hde'; exact fun j hj hd => byte_get (encL m) j hj hd
  have hp1 : ∀ k, From d (posE (ents l) k) (encE ((ents l).drop k)) := by subst hde; exact fun k => posE_at (ents l) k
  have hp2 : ∀ k, From d' (posE (ents m) k) (encE ((ents m).drop k)) := by subst hde'; exact fun k => posE_at (ents m) k
  rw [← hde, ← hde']
  clear hde hde'
  have hX := Blk.new w [.string d] LST
  have hY := Blk.new (w.alloc (.cells #[.string d] LST)) [.string d'] LST
  rw [show (w.alloc (.cells #[.string d] LST)).heap.size = w.heap.size + 1 by simp] at hY
  have hX2 := hX.alloc (.cells #[.string d'] LST)
  have hb : Below w.heap.size w ((w.alloc (.cells #[.string d] LST)).alloc (.cells #[.string d'] LST)) := (below_new w _).alloc (by simp) _
  have hz : ((w.alloc (.cells #[.string d] LST)).alloc (.cells #[.string d'] LST)).heap.size = w.heap.size + 2 := by simp
  have hx0 := Lib.hid (hX2.cell 0)
  have hy0 := Lib.hid (hY.cell 0)
  simp only [List.getElem?_cons_zero] at hx0 hy0
  have HS1 := Lib.hid hs1
  have HS2 := Lib.hid hs2
  clear hX hX2 hY hs1 hs2
  by_cases hle : d.size ≤ d'.size
  · have hle' : ¬ (d'.size : Int) < (d.size : Int) := by omega
    go_enter Tryz.func84, Tryz.ntmps84
    go_wp2_with fail
    go_quiet (fail)
    go_wp2_with fail
    generalize hW : World.drewN _ _ = W at *
    have hbW : Below w.heap.size w W := by rw [← hW]; first | exact below_drewN hb _ | exact below_drewN (below_drewN hb _) _
    have hzW : W.heap.size = w.heap.size + 2 := by rw [← hW]; exact hz
    have HZW := Lib.hid hzW
    have hx1 := Lib.hid (show W.cell? ⟨w.heap.size, 0, none⟩ = some (.string d) by rw [← hW]; exact hx0.out)
    have hy1 := Lib.hid (show W.cell? ⟨w.heap.size + 1, 0, none⟩ = some (.string d') by rw [← hW]; exact hy0.out)
    clear hW hx0 hy0 hb hz hzW
    try generalize (decide (d'.size < d.size)) = vb
    go_loopw [7] (fun i wr => ∃ k : Nat, k ≤ d.size ∧ i = .int .i64 k ∧ Hid (∀ j, j < k → (encL l)[j]? = (encL m)[j]?) ∧ Below (w.heap.size + 2) W wr) (fun i _ => d.size - (intOf i).toNat)
    case atStart => exact ⟨0, Nat.zero_le _, rfl, Lib.hid (fun j hj => absurd hj (by omega)), Below.refl _ _⟩
    case round => as_aux_lemma =>
      obtain ⟨k, hk, rfl, heq, hbel⟩ := hrel
      have hbw : Below w.heap.size w wr := hbW.trans (hbel.mono (by omega))
      have cx := (hbel.cell (p := ⟨w.heap.size, 0, none⟩) (by show w.heap.size < w.heap.size + 2; omega)).trans hx1.out
      have cy := (hbel.cell (p := ⟨w.heap.size + 1, 0, none⟩) (by show w.heap.size + 1 < w.heap.size + 2; omega)).trans hy1.out
      by_cases hlt : k < d.size
      · have i0 : (0 : Int) ≤ (k : Int) := by omega
        have ia : (k : Int) < (d.size : Int) := by omega
        have ib : (k : Int) < (d'.size : Int) := by omega
        have ka : k < (encL l).length := by rw [← HS1.out]; omega
        have kb : k < (encL m).length := by rw [← HS2.out]; omega
        have ga := hg1 k ka (by omega)
        have gb := hg2 k kb (by omega)
        have HN := Lib.hid (show (encL l)[k] = (encL m)[k] → ∀ j, j < k + 1 → (encL l)[j]? = (encL m)[j]? from fun e j hj => by
          by_cases c : j = k
          · subst c; rw [List.getElem?_eq_getElem ka, List.getElem?_eq_getElem kb, e]
          · exact heq.out j (by omega))
        have HD := Lib.hid (show (encL l)[k] ≠ (encL m)[k] → ∀ q (hq : q < (ents l).length), posE (ents l) q ≤ k → k < posE (ents l) (q + 1) → ∃ t c, ents m = (ents l).take q ++ t :: c ∧ t ≠ (ents l)[q] from fun hne q hq h1 h2 =>
          differ hf.ents hg.ents ka kb (fun j hj => by
            have e1 := heq.out j hj
            have ja : j < (encL l).length := by omega
            have jb : j < (encL m).length := by omega
            rw [List.getElem?_eq_getElem ja, List.getElem?_eq_getElem jb] at e1
            exact Option.some.inj e1) hne hq h1 h2)
        have KA := Lib.hid ka
        clear heq hg1 hg2
        generalize (encL l)[k] = u at *
        generalize (encL m)[k] = v at *
        by_cases huv : u = v
        · have HN' := Lib.hid (HN.out huv)
          subst huv
          go_wp2_with fail
          go_quiet (fail)
          go_wp2_with fail
          go_roundw
          case rel => exact ⟨k + 1, by omega, by simp, HN', below_drewN hbel nq⟩
          case measure => simp [intOf]; omega
        · have hu1 := u8_ne huv
          have hu2 := u8_ne (Ne.symm huv)
          have HD' := Lib.hid (HD.out huv)
          have hkk : ((k : Int) == (d.size : Int)) = false := by rw [beq_eq_false_iff_ne]; omega
          clear HN HD huv
          have hes0 : 0 < (ents l).length := by
            rcases Nat.eq_zero_or_pos (ents l).length with h0 | h0
            · have h1 : ents l = [] := List.length_eq_zero_iff.1 h0
              have : (encL l).length = 0 := by show (encE (ents l)).length = 0; rw [h1]; rfl
              omega
            · exact h0
          have hSz : ∀ q (hq : q < (ents l).length) (w : World), Calls Tryz.prog 105 #[.string d, .int .i64 (posE (ents l) q : Nat)] w fun e w' => e = .returned (.tuple #[.int .i64 (ents l)[q].size, .int .i64 (posE (ents l) q + szN (ents l)[q].size : Nat)]) ∧ Below w.heap.size w w' := fun q hq w => by
            have h1 := hp1 q
            rw [List.drop_eq_getElem_cons hq, encE_cons] at h1
            have h2 : From d (posE (ents l) q) (szE (ents l)[q].size ++ ((ents l)[q].data.toList ++ encE ((ents l).drop (q + 1)))) := by
              unfold strE at h1
              simpa only [List.append_assoc] using h1
            exact decSize_any d _ _ _ w h2 (hf.ents _ (List.getElem_mem hq)) (by rw [HS1.out]; exact hdl)
          have hS0 := hSz 0 hes0
          rw [show posE (ents l) 0 = 0 from rfl] at hS0
          have hS0' : ∀ w, Calls Tryz.prog 105 #[.string d, .int .i64 0] w fun e w' => e = .returned (.tuple #[.int .i64 (ents l)[0].size, .int .i64 (0 + szN (ents l)[0].size : Nat)]) ∧ Below w.heap.size w w' := hS0
          have HE0 := Lib.hid hes0
          clear hS0
          generalize hsz0 : (ents l)[0].size = sz0 at *
          generalize hnx0 : 0 + szN sz0 = nx0 at *
          go_wp2_with fail
          go_quiet (fail)
          have hbelN := below_drewN hbel nq
          go_wp2_with (first | ((with_reducible refine (hS0' _).mono ?_); rintro e w1 ⟨rfl, hb1⟩) | fail)
          have hbel1 := hbelN.trans (hb1.mono (by have := hbelN.size; rw [HZW.out] at this; exact this))
          clear hb1 hbelN hbel cx cy hbw hS0'
          go_loopw [7, 9, 10] (fun i sz nx wr => ∃ q, ∃ hq : q < (ents l).length, i = .int .i64 (posE (ents l) q : Nat) ∧ sz = .int .i64 (ents l)[q].size ∧ nx = .int .i64 (posE (ents l) q + szN (ents l)[q].size : Nat) ∧ Hid (posE (ents l) q ≤ k) ∧ Below (w.heap.size + 2) W wr) (fun i _ _ _ => d.size - (intOf i).toNat)
          case atStart => exact ⟨0, HE0.out, rfl, by rw [← hsz0]; rfl, by rw [← hnx0, ← hsz0]; rfl, Lib.hid (Nat.zero_le _), hbel1⟩
          case round => as_aux_lemma =>
            clear hbel1
            obtain ⟨q, hq, rfl, rfl, rfl, hpk, hbel⟩ := hrel
            have hbw : Below w.heap.size w wr := hbW.trans (hbel.mono (by omega))
            have hzr : w.heap.size + 2 ≤ wr.heap.size := by have := hbel.size; rw [HZW.out] at this; exact this
            have cx := (hbel.cell (p := ⟨w.heap.size, 0, none⟩) (by show w.heap.size < w.heap.size + 2; omega)).trans hx1.out
            have cy := (hbel.cell (p := ⟨w.heap.size + 1, 0, none⟩) (by show w.heap.size + 1 < w.heap.size + 2; omega)).trans hy1.out
            have hN := posE_next hq
            have hqs := szN_pos (ents l)[q].size
            have hdz : d.size ≤ 1073741824 := by rw [HS1.out]; exact hdl
            by_cases hc : posE (ents l) (q + 1) ≤ k
            · have hq1 : q + 1 < (ents l).length := by
                rcases Nat.lt_or_ge (q + 1) (ents l).length with h | h
                · exact h
                · have e : q + 1 = (ents l).length := by omega
                  rw [e, posE_full] at hc
                  have := KA.out
                  have h5 : (encE (ents l)).length = (encL l).length := rfl
                  omega
              have hS := hSz (q + 1) hq1
              have HM := Lib.hid (show posE (ents l) q < posE (ents l) (q + 1) ∧ posE (ents l) (q + 1) < d.size from ⟨by omega, by have := KA.out; have := HS1.out; omega⟩)
              have u1 : IntKind.i64.wrap (((posE (ents l) q + szN (ents l)[q].size : Nat) : Int) + ((ents l)[q].size : Int)) = (posE (ents l) (q + 1) : Int) := by
                rw [show ((posE (ents l) q + szN (ents l)[q].size : Nat) : Int) + ((ents l)[q].size : Int) = (posE (ents l) (q + 1) : Int) by omega]
                exact IntWalk.i64_in _ (by have := HM.out; omega)
              have i1 : (posE (ents l) (q + 1) : Int) ≤ (k : Int) := by omega
              have HC := Lib.hid hc
              clear hN hqs hpk hSz hp1 hp2 hc
              generalize hA1 : posE (ents l) q = P0 at *
              generalize hA2 : posE (ents l) (q + 1) = P1 at *
              generalize hA3 : (ents l)[q].size = S0 at *
              generalize hA4 : (ents l)[q + 1].size = S1 at *
              generalize hA5 : P0 + szN S0 = X0 at *
              generalize hA6 : P1 + szN S1 = X1 at *
              go_wp2_with (first | ((with_reducible refine (hS _).mono ?_); rintro e w1 ⟨rfl, hb1⟩) | fail)
              go_roundw
              case rel => exact ⟨q + 1, hq1, by rw [hA2], by rw [← hA4], by rw [← hA6, ← hA4, ← hA2], Lib.hid (by rw [hA2]; exact HC.out), hbel.trans (hb1.mono hzr)⟩
              case measure => simp [intOf]; have := HM.out; omega
            · obtain ⟨t, c, hmc, htne⟩ := HD'.out q hq hpk.out (by omega)
              have hD1 := fun w => decStr_any d (ents l)[q] (posE (ents l) q) (encE ((ents l).drop (q + 1))) w (by
                have h1 := hp1 q
                rw [List.drop_eq_getElem_cons hq, encE_cons] at h1
                exact h1) (hf.ents _ (List.getElem_mem hq)) hdz
              have hlq : ((ents l).take q).length = q := by rw [List.length_take]; omega
              have hD2 := fun w => decStr_any d' t (posE (ents l) q) (encE c) w (by
                have h1 := hp2 q
                unfold posE at h1 ⊢
                rw [hmc, List.take_left' hlq, List.drop_left' hlq, encE_cons] at h1
                exact h1) (hg.ents _ (by rw [hmc]; exact List.mem_append_right _ List.mem_cons_self)) (by rw [HS2.out]; exact hdm)
              have HR := Lib.hid (befP_differ hq hmc htne)
              have u1 : IntKind.i64.wrap (((posE (ents l) q + szN (ents l)[q].size : Nat) : Int) + ((ents l)[q].size : Int)) = (posE (ents l) (q + 1) : Int) := by
                rw [show ((posE (ents l) q + szN (ents l)[q].size : Nat) : Int) + ((ents l)[q].size : Int) = (posE (ents l) (q + 1) : Int) by omega]
                have h7 := (hp1 (q + 1)).2
                exact IntWalk.i64_in _ (by omega)
              have i1 : ¬ (posE (ents l) (q + 1) : Int) ≤ (k : Int) := by omega
              clear hN hqs hpk hSz hp1 hp2 hc hmc htne HD' hlq
              generalize hA0 : posE (ents l) q + szN (ents l)[q].size = X0 at *
              clear hA0
              generalize posE (ents l) q = P0 at *
              generalize posE (ents l) (q + 1) = P1 at *
              generalize (ents l)[q] = s0 at *
              have HR' := Lib.hid (show ∀ b, Op.bytesLess s0.toList t.toList = b → Sgn (if b then -1 else 1) (befP l m) from fun b hb => HR.out _ (by rw [← hb]; rfl))
              clear HR
              cases hless : Op.bytesLess s0.toList t.toList
              · have HZ := Lib.hid (HR'.out _ hless)
                clear HR'
                go_wp2_with (first
                  | ((with_reducible refine (hD1 _).mono ?_); rintro e w1 ⟨rfl, hb1⟩; have cy1 := (hb1.cell (lt_of_cell cy).1).trans cy)
                  | ((with_reducible refine (hD2 _).mono ?_); rintro e w2 ⟨rfl, hb2⟩)
                  | fail)
                go_ret
                exact ⟨_, rfl, HZ.out, bnx (hbw.trans (hb1.mono hbw.size)) hb2⟩
              · have HZ := Lib.hid (HR'.out _ hless)
                clear HR'
                go_wp2_with (first
                  | ((with_reducible refine (hD1 _).mono ?_); rintro e w1 ⟨rfl, hb1⟩; have cy1 := (hb1.cell (lt_of_cell cy).1).trans cy)
                  | ((with_reducible refine (hD2 _).mono ?_); rintro e w2 ⟨rfl, hb2⟩)
                  | fail)
                go_ret
                exact ⟨_, rfl, HZ.out, bnx (hbw.trans (hb1.mono hbw.size)) hb2⟩
      · obtain rfl : k = d.size := by omega
        have HP := Lib.hid (show Sgn ((d.size : Int) - (d'.size : Int)) (befP l m) by
          rw [HS1.out, HS2.out]
          exact befP_begin hf hg (by have := HS1.out; have := HS2.out; omega) (fun j hj => by
            have e1 := heq.out j (by rw [HS1.out]; exact hj)
            have jb : j < (encL m).length := by have := HS1.out; have := HS2.out; omega
            rw [List.getElem?_eq_getElem hj, List.getElem?_eq_getElem jb] at e1
            exact Option.some.inj e1))
        have hw2 : IntKind.i64.wrap ((d.size : Int) - (d'.size : Int)) = (d.size : Int) - (d'.size : Int) := IntWalk.i64_in _ (by have := HS1.out; have := HS2.out; omega)
        go_wp2_with fail
        go_ret
        exact ⟨_, rfl, HP.out, hbw⟩
  · have hle' : (d'.size : Int) < (d.size : Int) := by omega
    go_enter Tryz.func84, Tryz.ntmps84
    go_wp2_with fail
    go_quiet (fail)
    go_wp2_with fail
    go_quiet (fail)
    go_wp2_with fail
    generalize hW : World.drewN _ _ = W at *
    have hbW : Below w.heap.size w W := by rw [← hW]; first | exact below_drewN hb _ | exact below_drewN (below_drewN hb _) _
    have hzW : W.heap.size = w.heap.size + 2 := by rw [← hW]; exact hz
    have HZW := Lib.hid hzW
    have hx1 := Lib.hid (show W.cell? ⟨w.heap.size, 0, none⟩ = some (.string d) by rw [← hW]; exact hx0.out)
    have hy1 := Lib.hid (show W.cell? ⟨w.heap.size + 1, 0, none⟩ = some (.string d') by rw [← hW]; exact hy0.out)
    clear hW hx0 hy0 hb hz hzW
    try generalize (decide (d'.size < d.size)) = vb
    go_loopw [7] (fun i wr => ∃ k : Nat, k ≤ d'.size ∧ i = .int .i64 k ∧ Hid (∀ j, j < k → (encL l)[j]? = (encL m)[j]?) ∧ Below (w.heap.size + 2) W wr) (fun i _ => d'.size - (intOf i).toNat)
    case atStart => exact ⟨0, Nat.zero_le _, rfl, Lib.hid (fun j hj => absurd hj (by omega)), Below.refl _ _⟩
    case round => as_aux_lemma =>
      obtain ⟨k, hk, rfl, heq, hbel⟩ := hrel
      have hbw : Below w.heap.size w wr := hbW.trans (hbel.mono (by omega))
      have cx := (hbel.cell (p := ⟨w.heap.size, 0, none⟩) (by show w.heap.size < w.heap.size + 2; omega)).trans hx1.out
      have cy := (hbel.cell (p := ⟨w.heap.size + 1, 0, none⟩) (by show w.heap.size + 1 < w.heap.size + 2; omega)).trans hy1.out
      by_cases hlt : k < d'.size
      · have i0 : (0 : Int) ≤ (k : Int) := by omega
        have ia : (k : Int) < (d.size : Int) := by omega
        have ib : (k : Int) < (d'.size : Int) := by omega
        have ka : k < (encL l).length := by rw [← HS1.out]; omega
        have kb : k < (encL m).length := by rw [← HS2.out]; omega
        have ga := hg1 k ka (by omega)
        have gb := hg2 k kb (by omega)
        have HN := Lib.hid (show (encL l)[k] = (encL m)[k] → ∀ j, j < k + 1 → (encL l)[j]? = (encL m)[j]? from fun e j hj => by
          by_cases c : j = k
          · subst c; rw [List.getElem?_eq_getElem ka, List.getElem?_eq_getElem kb, e]
          · exact heq.out j (by omega))
        have HD := Lib.hid (show (encL l)[k] ≠ (encL m)[k] → ∀ q (hq : q < (ents l).length), posE (ents l) q ≤ k → k < posE (ents l) (q + 1) → ∃ t c, ents m = (ents l).take q ++ t :: c ∧ t ≠ (ents l)[q] from fun hne q hq h1 h2 =>
          differ hf.ents hg.ents ka kb (fun j hj => by
            have e1 := heq.out j hj
            have ja : j < (encL l).length := by omega
            have jb : j < (encL m).length := by omega
            rw [List.getElem?_eq_getElem ja, List.getElem?_eq_getElem jb] at e1
            exact Option.some.inj e1) hne hq h1 h2)
        have KA := Lib.hid ka
        clear heq hg1 hg2
        generalize (encL l)[k] = u at *
        generalize (encL m)[k] = v at *
        by_cases huv : u = v
        · have HN' := Lib.hid (HN.out huv)
          subst huv
          go_wp2_with fail
          go_quiet (fail)
          go_wp2_with fail
          go_roundw
          case rel => exact ⟨k + 1, by omega, by simp, HN', below_drewN hbel nq⟩
          case measure => simp [intOf]; omega
        · have hu1 := u8_ne huv
          have hu2 := u8_ne (Ne.symm huv)
          have HD' := Lib.hid (HD.out huv)
          have hkk : ((k : Int) == (d'.size : Int)) = false := by rw [beq_eq_false_iff_ne]; omega
          clear HN HD huv
          have hes0 : 0 < (ents l).length := by
            rcases Nat.eq_zero_or_pos (ents l).length with h0 | h0
            · have h1 : ents l = [] := List.length_eq_zero_iff.1 h0
              have : (encL l).length = 0 := by show (encE (ents l)).length = 0; rw [h1]; rfl
              omega
            · exact h0
          have hSz : ∀ q (hq : q < (ents l).length) (w : World), Calls Tryz.prog 105 #[.string d, .int .i64 (posE (ents l) q : Nat)] w fun e w' => e = .returned (.tuple #[.int .i64 (ents l)[q].size, .int .i64 (posE (ents l) q + szN (ents l)[q].size : Nat)]) ∧ Below w.heap.size w w' := fun q hq w => by
            have h1 := hp1 q
            rw [List.drop_eq_getElem_cons hq, encE_cons] at h1
            have h2 : From d (posE (ents l) q) (szE (ents l)[q].size ++ ((ents l)[q].data.toList ++ encE ((ents l).drop (q + 1)))) := by
              unfold strE at h1
              simpa only [List.append_assoc] using h1
            exact decSize_any d _ _ _ w h2 (hf.ents _ (List.getElem_mem hq)) (by rw [HS1.out]; exact hdl)
          have hS0 := hSz 0 hes0
          rw [show posE (ents l) 0 = 0 from rfl] at hS0
          have hS0' : ∀ w, Calls Tryz.prog 105 #[.string d, .int .i64 0] w fun e w' => e = .returned (.tuple #[.int .i64 (ents l)[0].size, .int .i64 (0 + szN (ents l)[0].size : Nat)]) ∧ Below w.heap.size w w' := hS0
          have HE0 := Lib.hid hes0
          clear hS0
          generalize hsz0 : (ents l)[0].size = sz0 at *
          generalize hnx0 : 0 + szN sz0 = nx0 at *
          go_wp2_with fail
          go_quiet (fail)
          have hbelN := below_drewN hbel nq
          go_wp2_with (first | ((with_reducible refine (hS0' _).mono ?_); rintro e w1 ⟨rfl, hb1⟩) | fail)
          have hbel1 := hbelN.trans (hb1.mono (by have := hbelN.size; rw [HZW.out] at this; exact this))
          clear hb1 hbelN hbel cx cy hbw hS0'
          go_loopw [7, 9, 10] (fun i sz nx wr => ∃ q, ∃ hq : q < (ents l).length, i = .int .i64 (posE (ents l) q : Nat) ∧ sz = .int .i64 (ents l)[q].size ∧ nx = .int .i64 (posE (ents l) q + szN (ents l)[q].size : Nat) ∧ Hid (posE (ents l) q ≤ k) ∧ Below (w.heap.size + 2) W wr) (fun i _ _ _ => d.size - (intOf i).toNat)
          case atStart => exact ⟨0, HE0.out, rfl, by rw [← hsz0]; rfl, by rw [← hnx0, ← hsz0]; rfl, Lib.hid (Nat.zero_le _), hbel1⟩
          case round => as_aux_lemma =>
            clear hbel1
            obtain ⟨q, hq, rfl, rfl, rfl, hpk, hbel⟩ := hrel
            have hbw : Below w.heap.size w wr := hbW.trans (hbel.mono (by omega))
            have hzr : w.heap.size + 2 ≤ wr.heap.size := by have := hbel.size; rw [HZW.out] at this; exact this
            have cx := (hbel.cell (p := ⟨w.heap.size, 0, none⟩) (by show w.heap.size < w.heap.size + 2; omega)).trans hx1.out
            have cy := (hbel.cell (p := ⟨w.heap.size + 1, 0, none⟩) (by show w.heap.size + 1 < w.heap.size + 2; omega)).trans hy1.out
            have hN := posE_next hq
            have hqs := szN_pos (ents l)[q].size
            have hdz : d.size ≤ 1073741824 := by rw [HS1.out]; exact hdl
            by_cases hc : posE (ents l) (q + 1) ≤ k
            · have hq1 : q + 1 < (ents l).length := by
                rcases Nat.lt_or_ge (q + 1) (ents l).length with h | h
                · exact h
                · have e : q + 1 = (ents l).length := by omega
                  rw [e, posE_full] at hc
                  have := KA.out
                  have h5 : (encE (ents l)).length = (encL l).length := rfl
                  omega
              have hS := hSz (q + 1) hq1
              have HM := Lib.hid (show posE (ents l) q < posE (ents l) (q + 1) ∧ posE (ents l) (q + 1) < d.size from ⟨by omega, by have := KA.out; have := HS1.out; omega⟩)
              have u1 : IntKind.i64.wrap (((posE (ents l) q + szN (ents l)[q].size : Nat) : Int) + ((ents l)[q].size : Int)) = (posE (ents l) (q + 1) : Int) := by
                rw [show ((posE (ents l) q + szN (ents l)[q].size : Nat) : Int) + ((ents l)[q].size : Int) = (posE (ents l) (q + 1) : Int) by omega]
                exact IntWalk.i64_in _ (by have := HM.out; omega)
              have i1 : (posE (ents l) (q + 1) : Int) ≤ (k : Int) := by omega
              have HC := Lib.hid hc
              clear hN hqs hpk hSz hp1 hp2 hc
              generalize hA1 : posE (ents l) q = P0 at *
              generalize hA2 : posE (ents l) (q + 1) = P1 at *
              generalize hA3 : (ents l)[q].size = S0 at *
              generalize hA4 : (ents l)[q + 1].size = S1 at *
              generalize hA5 : P0 + szN S0 = X0 at *
              generalize hA6 : P1 + szN S1 = X1 at *
              go_wp2_with (first | ((with_reducible refine (hS _).mono ?_); rintro e w1 ⟨rfl, hb1⟩) | fail)
              go_roundw
              case rel => exact ⟨q + 1, hq1, by rw [hA2], by rw [← hA4], by rw [← hA6, ← hA4, ← hA2], Lib.hid (by rw [hA2]; exact HC.out), hbel.trans (hb1.mono hzr)⟩
              case measure => simp [intOf]; have := HM.out; omega
            · obtain ⟨t, c, hmc, htne⟩ := HD'.out q hq hpk.out (by omega)
              have hD1 := fun w => decStr_any d (ents l)[q] (posE (ents l) q) (encE ((ents l).drop (q + 1))) w (by
                have h1 := hp1 q
                rw [List.drop_eq_getElem_cons hq, encE_cons] at h1
                exact h1) (hf.ents _ (List.getElem_mem hq)) hdz
              have hlq : ((ents l).take q).length = q := by rw [List.length_take]; omega
              have hD2 := fun w => decStr_any d' t (posE (ents l) q) (encE c) w (by
                have h1 := hp2 q
                unfold posE at h1 ⊢
                rw [hmc, List.take_left' hlq, List.drop_left' hlq, encE_cons] at h1
                exact h1) (hg.ents _ (by rw [hmc]; exact List.mem_append_right _ List.mem_cons_self)) (by rw [HS2.out]; exact hdm)
              have HR := Lib.hid (befP_differ hq hmc htne)
              have u1 : IntKind.i64.wrap (((posE (ents l) q + szN (ents l)[q].size : Nat) : Int) + ((ents l)[q].size : Int)) = (posE (ents l) (q + 1) : Int) := by
                rw [show ((posE (ents l) q + szN (ents l)[q].size : Nat) : Int) + ((ents l)[q].size : Int) = (posE (ents l) (q + 1) : Int) by omega]
                have h7 := (hp1 (q + 1)).2
                exact IntWalk.i64_in _ (by omega)
              have i1 : ¬ (posE (ents l) (q + 1) : Int) ≤ (k : Int) := by omega
              clear hN hqs hpk hSz hp1 hp2 hc hmc htne HD' hlq
              generalize hA0 : posE (ents l) q + szN (ents l)[q].size = X0 at *
              clear hA0
              generalize posE (ents l) q = P0 at *
              generalize posE (ents l) (q + 1) = P1 at *
              generalize (ents l)[q] = s0 at *
              have HR' := Lib.hid (show ∀ b, Op.bytesLess s0.toList t.toList = b → Sgn (if b then -1 else 1) (befP l m) from fun b hb => HR.out _ (by rw [← hb]; rfl))
              clear HR
              cases hless : Op.bytesLess s0.toList t.toList
              · have HZ := Lib.hid (HR'.out _ hless)
                clear HR'
                go_wp2_with (first
                  | ((with_reducible refine (hD1 _).mono ?_); rintro e w1 ⟨rfl, hb1⟩; have cy1 := (hb1.cell (lt_of_cell cy).1).trans cy)
                  | ((with_reducible refine (hD2 _).mono ?_); rintro e w2 ⟨rfl, hb2⟩)
                  | fail)
                go_ret
                exact ⟨_, rfl, HZ.out, bnx (hbw.trans (hb1.mono hbw.size)) hb2⟩
              · have HZ := Lib.hid (HR'.out _ hless)
                clear HR'
                go_wp2_with (first
                  | ((with_reducible refine (hD1 _).mono ?_); rintro e w1 ⟨rfl, hb1⟩; have cy1 := (hb1.cell (lt_of_cell cy).1).trans cy)
                  | ((with_reducible refine (hD2 _).mono ?_); rintro e w2 ⟨rfl, hb2⟩)
                  | fail)
                go_ret
                exact ⟨_, rfl, HZ.out, bnx (hbw.trans (hb1.mono hbw.size)) hb2⟩
      · obtain rfl : k = d'.size := by omega
        have HP := Lib.hid (show Sgn ((d.size : Int) - (d'.size : Int)) (befP l m) by
          rw [HS1.out, HS2.out]
          exact befP_begin' hf hg (by have := HS1.out; have := HS2.out; omega) (fun j hj => by
            have e1 := heq.out j (by rw [HS2.out]; exact hj)
            have jb : j < (encL l).length := by have := HS1.out; have := HS2.out; omega
            rw [List.getElem?_eq_getElem hj, List.getElem?_eq_getElem jb] at e1
            exact Option.some.inj e1))
        have hw2 : IntKind.i64.wrap ((d.size : Int) - (d'.size : Int)) = (d.size : Int) - (d'.size : Int) := IntWalk.i64_in _ (by have := HS1.out; have := HS2.out; omega)
        go_wp2_with fail
        go_ret
        exact ⟨_, rfl, HP.out, hbw⟩
end Go.Proofs.YtapoodnjkkhggaaGreat
