/-
  Labels.Get, Labels.Has.
-/
import Derived.Test.YtapoodnjkkhggaaGreatRng
import Derived.Test.YtapoodnjkkhggaaGreatSpR
namespace Go.Proofs.YtapoodnjkkhggaaGreat
set_option linter.unusedSimpArgs false
set_option linter.unusedVariables false
open Go.RowKit

theorem cons_of {x : ByteArray} (h : x.size ≠ 0) : ∃ a ar, x.toList = a :: ar ∧ ∃ h0 : 0 < x.size, x[0]'h0 = a := by
  have hl : x.toList = x.data.toList := Lib.toList_data x
  have hs : x.data.toList.length = x.size := rfl
  cases hc : x.data.toList with
  | nil => rw [hc] at hs; simp at hs; omega
  | cons a ar =>
    refine ⟨a, ar, hl.trans hc, by omega, ?_⟩
    have : x.data.toList[0]'(by omega) = a := by simp [hc]
    exact this
theorem look_at {l : List Lb} {n : ByteArray} {k : Nat} (hk : k < l.length) (h : ∀ j (hj : j < k) (hjl : j < l.length), l[j].1 ≠ n) (e : l[k].1 = n) : look l n = some l[k].2 := by
  unfold look
  have e : l.find? (fun x => decide (x.1 = n)) = some l[k] := List.find?_eq_some_iff_getElem.2 ⟨by simpa using e, k, hk, rfl, fun j hj => by simpa using h j hj (by omega)⟩
  rw [e]
  rfl
theorem look_past {l : List Lb} {n : ByteArray} {k : Nat} (ha : Asc l) (hk : k < l.length) (h : ∀ j (hj : j < k) (hjl : j < l.length), l[j].1 ≠ n) (hl : lt n l[k].1 = true) : look l n = none := by
  refine look_none fun x hx c => ?_
  obtain ⟨j, hj, rfl⟩ := List.getElem_of_mem hx
  by_cases c1 : j < k
  · exact h j c1 hj c
  · by_cases c2 : j = k
    · subst c2; rw [c, lt_irrefl] at hl; cases hl
    · have := List.pairwise_iff_getElem.1 ha k j hk hj (by omega)
      have h3 := lt_trans hl this
      rw [c, lt_irrefl] at h3; cases h3
theorem u8_ne {a b : UInt8} (h : a ≠ b) : ((a.toNat : Int) == (b.toNat : Int)) = false := by
  rw [beq_eq_false_iff_ne]
  intro c
  exact h (UInt8.toNat_inj.1 (by omega))
set_option maxRecDepth 100000 in
set_option maxHeartbeats 4000000 in
theorem get_any (l : List Lb) (n : ByteArray) (w : World) (ha : Asc l) (hne : ∀ x ∈ l, x.1.size ≠ 0) (hf : FitL l) (hd : (encL l).length ≤ 1073741824) (hl : l.length ≤ 1000000) :
    Calls Tryz.prog 82 #[lbsV l, .string n] w fun e w' => e = .returned (.string ((look l n).getD ⟨#[]⟩)) ∧ Below w.heap.size w w' := by
  unfold lbsV
  have hb0 := below_new w (.cells #[.string ⟨(encL l).toArray⟩] LST)
  by_cases n0 : n.size = 0
  · have hn := Lib.hid (look_none (l := l) (n := n) (fun x hx c => hne x hx (by rw [c]; exact n0)))
    obtain rfl := str_nil0 n0
    clear n0
    generalize (⟨(encL l).toArray⟩ : ByteArray) = d at *
    go_enter Tryz.func82, Tryz.ntmps82
    go_wp2_with fail
    go_ret
    rw [hn.out]
    exact ⟨rfl, hb0⟩
  · have en := str_nil n0
    obtain ⟨na, nar, hnl, hn0, hng⟩ := cons_of n0
    have hn0' : (0 : Int) < (n.size : Int) := by omega
    have hsz : (⟨(encL l).toArray⟩ : ByteArray).size = (encL l).length := by simp [ByteArray.size]
    have hat := fun k hk => posL_at l k hk
    have hend := posL_end l
    generalize hdd : (⟨(encL l).toArray⟩ : ByteArray) = d at *
    have HE := Lib.hid hend
    have HS := Lib.hid hsz
    have hB := Blk.new w [.string d] LST
    have HNL := Lib.hid hnl
    clear hend hsz hdd n0 hnl
    go_enter Tryz.func82, Tryz.ntmps82
    go_wp2_with fail
    go_loopw [5] (fun i wr => ∃ k : Nat, k ≤ l.length ∧ i = .int .i64 (posL l k : Nat) ∧ Hid (∀ j (hj : j < k) (hjl : j < l.length), l[j].1 ≠ n) ∧ Below (w.heap.size + 1) (w.alloc (.cells #[.string d] LST)) wr) (fun i _ => d.size - (intOf i).toNat)
    case atStart => exact ⟨0, Nat.zero_le _, rfl, Lib.hid (fun j hj => absurd hj (by omega)), Below.refl _ _⟩
    case round => as_aux_lemma =>
      obtain ⟨k, hk, rfl, hnk, hbel⟩ := hrel
      have c0 := (hbel.cell (p := ⟨w.heap.size, 0, none⟩) (Nat.lt_succ_self _)).trans (hB.cell 0)
      simp only [List.getElem?_cons_zero] at c0
      have hbw : Below w.heap.size w wr := hb0.trans (hbel.mono (Nat.le_succ _))
      have hz1 : w.heap.size + 1 ≤ wr.heap.size := by have := hbel.size; simpa using this
      by_cases hlt : k < l.length
      · have hA := hat k hk
        have hl0 := posL_lt hlt
        rw [← HS.out] at hl0
        have hfx := hf _ (List.getElem_mem hlt)
        have hnx := hne _ (List.getElem_mem hlt)
        have hN := posL_next hlt
        rw [List.drop_eq_getElem_cons hlt, encL_cons] at hA
        have hA2 := hA.skip
        have hA1 : From d (posL l k) (szE l[k].1.size ++ (l[k].1.data.toList ++ (strE l[k].2 ++ encL (l.drop (k + 1))))) := by
          have := hA
          unfold strE at this ⊢
          simpa only [List.append_assoc] using this
        have hA1b := hA1.skip
        rw [szE_length] at hA1b
        have hcut := hA1b.cut
        have hszA := hA1b.size
        rw [List.length_append, show l[k].1.data.toList.length = l[k].1.size from rfl] at hszA
        have hq1 := strE_length l[k].1
        obtain ⟨xa, xar, hxl, hx0, hxg⟩ := cons_of hnx
        have hq0 := szN_pos l[k].1.size
        have hdp : posL l k + szN l[k].1.size < d.size := by omega
        have hg0 : d[posL l k + szN l[k].1.size]'hdp = xa := by
          have h1 := hA1b.get 0 (by rw [List.length_append, show l[k].1.data.toList.length = l[k].1.size from rfl]; omega) hdp
          simp only [Nat.add_zero] at h1
          rw [h1, List.getElem_append_left (by rw [show l[k].1.data.toList.length = l[k].1.size from rfl]; omega)]
          exact hxg
        have hle2 : posL l (k + 1) ≤ d.size := (hat (k + 1) hlt).2
        rw [← HS.out] at hd
        have hS1 := decSize_any d (posL l k) l[k].1.size _ wr hA1 hfx.1 hd
        rw [hq1, ← Nat.add_assoc] at hA2 hN
        have hA3 : From d (posL l k + szN l[k].1.size + l[k].1.size) (szE l[k].2.size ++ (l[k].2.data.toList ++ encL (l.drop (k + 1)))) := by
          have := hA2
          unfold strE at this
          simpa only [List.append_assoc] using this
        have hS2 := fun w => decSize_any d _ l[k].2.size _ w hA3 hfx.2 hd
        have hV := fun w => decStr_any d l[k].2 _ _ w hA2 hfx.2 hd
        rw [strE_length] at hN
        have HK1 := Lib.hid (fun e => look_at hlt hnk.out e)
        have HK2 := Lib.hid (fun e => look_past ha hlt hnk.out e)
        have HK3 := Lib.hid (show l[k].1 ≠ n → ∀ j (hj : j < k + 1) (hjl : j < l.length), l[j].1 ≠ n from fun e j hj hjl => by
          by_cases c : j = k
          · subst c; exact e
          · exact hnk.out j (by omega) hjl)
        have HXL := Lib.hid hxl
        clear hA hA1 hA1b hA2 hA3 hfx hnx hat hq1 hxl hx0 hxg hnk
        generalize hp2 : posL l (k + 1) = p2 at *
        generalize posL l k = p at *
        generalize l[k] = x at *
        obtain ⟨x1, x2⟩ := x
        simp only at hS1 hS2 hV hN hg0 hcut hdp hszA
        generalize szN x1.size = q1 at *
        generalize szN x2.size = q2 at *
        have i1 : (p : Int) < (d.size : Int) := by omega
        have i2 : (0 : Int) ≤ (p : Int) + (q1 : Int) := by omega
        have i3 : (p : Int) + (q1 : Int) < (d.size : Int) := by omega
        have t1 : ((p : Int) + (q1 : Int)).toNat = p + q1 := by omega
        have t2 : ((p : Int) + (q1 : Int) + (x1.size : Int)).toNat = p + q1 + x1.size := by omega
        have i4 : (p : Int) + (q1 : Int) + (x1.size : Int) ≤ (d.size : Int) := by omega
        have i5 : (0 : Int) ≤ (p : Int) + (q1 : Int) + (x1.size : Int) := by omega
        have i6 : (p : Int) + (q1 : Int) ≤ (p : Int) + (q1 : Int) + (x1.size : Int) := by omega
        have HN := Lib.hid (show ((p2 : Nat) : Int) = (p : Int) + (q1 : Int) + (x1.size : Int) + (q2 : Int) + (x2.size : Int) by omega)
        have HM := Lib.hid (show p < p2 ∧ p2 ≤ d.size from ⟨by omega, by omega⟩)
        have hS2' : ∀ w, Calls Tryz.prog 105 #[.string d, .int .i64 ((p : Int) + (q1 : Int) + (x1.size : Int))] w fun e w' => e = .returned (.tuple #[.int .i64 x2.size, .int .i64 ((p : Int) + (q1 : Int) + (x1.size : Int) + (q2 : Int))]) ∧ Below w.heap.size w w' := fun w => by
          have := hS2 w
          simp only [Int.natCast_add] at this
          exact this
        have hV' : ∀ w, Calls Tryz.prog 99 #[.string d, .int .i64 ((p : Int) + (q1 : Int) + (x1.size : Int))] w fun e w' => e = .returned (.tuple #[.string x2, .int .i64 ((p + q1 + x1.size + (strE x2).length : Nat) : Int)]) ∧ Below w.heap.size w w' := fun w => by
          have := hV w
          rw [show ((p + q1 + x1.size : Nat) : Int) = (p : Int) + (q1 : Int) + (x1.size : Int) by simp only [Int.natCast_add]] at this
          exact this
        have u1 : IntKind.i64.wrap ((p : Int) + (q1 : Int) + (x1.size : Int) + (q2 : Int) + (x2.size : Int)) = (p : Int) + (q1 : Int) + (x1.size : Int) + (q2 : Int) + (x2.size : Int) := IntWalk.i64_in _ (by omega)
        clear hS2 hV hN hszA hle2 hl0 hq0
        by_cases hh : xa = na
        · subst hh
          by_cases hxn : x1 = n
          · have HK := Lib.hid (HK1.out hxn)
            have hxe : (x1.toList == n.toList) = true := by rw [hxn]; simp
            clear hxn
            go_wp2_with (first | ((with_reducible refine hS1.mono ?_); rintro e w1 ⟨rfl, hb1⟩; have hbel1 := hbel.trans (hb1.mono hz1); have c1 := (hb1.cell (lt_of_cell c0).1).trans c0) | fail)
            go_quiet (fail)
            go_wp2_with (first | ((with_reducible refine (hV' _).mono ?_); rintro e w2 ⟨rfl, hb2⟩) | fail)
            go_ret
            rw [HK.out]
            exact ⟨rfl, (below_drewN (hbw.trans (hb1.mono hbw.size)) nq).trans (hb2.mono (Nat.le_trans hbw.size hb1.size))⟩
          · have HK := Lib.hid (HK3.out hxn)
            have hxe := str_ne hxn
            clear hxn
            go_wp2_with (first | ((with_reducible refine hS1.mono ?_); rintro e w1 ⟨rfl, hb1⟩; have hbel1 := hbel.trans (hb1.mono hz1); have c1 := (hb1.cell (lt_of_cell c0).1).trans c0) | fail)
            go_quiet (fail)
            go_wp2_with (first | ((with_reducible refine (hS2' _).mono ?_); rintro e w2 ⟨rfl, hb2⟩) | fail)
            go_roundw
            case rel => exact ⟨k + 1, by omega, by rw [hp2, HN.out], HK, (below_drewN hbel1 nq).trans (hb2.mono (Nat.le_trans hz1 hb1.size))⟩
            case measure => simp [intOf]; have := HM.out; have := HN.out; omega
        · have hne' := u8_ne hh
          have HKn := Lib.hid (HK3.out (by
            rintro c
            have e1 := HXL.out
            have e2 := HNL.out
            simp only at e1 c
            rw [c, e2] at e1
            exact hh (List.cons.inj e1).1.symm))
          by_cases hg : na < xa
          · have HK := Lib.hid (HK2.out (lt_of_head HNL.out HXL.out hg))
            have hg' : ((na.toNat : Int) < (xa.toNat : Int)) := by have := UInt8.lt_iff_toNat_lt.1 hg; omega
            clear hg
            go_wp2_with (first | ((with_reducible refine hS1.mono ?_); rintro e w1 ⟨rfl, hb1⟩; have hbel1 := hbel.trans (hb1.mono hz1); have c1 := (hb1.cell (lt_of_cell c0).1).trans c0) | fail)
            go_quiet (fail)
            go_wp2_with fail
            go_quiet (fail)
            go_wp2_with fail
            go_ret
            rw [HK.out]
            exact ⟨rfl, below_drewN (below_drewN (hbw.trans (hb1.mono hbw.size)) _) _⟩
          · have hg' : ¬ ((na.toNat : Int) < (xa.toNat : Int)) := by intro c; exact hg (UInt8.lt_iff_toNat_lt.2 (by omega))
            have HK := HKn
            clear hg
            go_wp2_with (first | ((with_reducible refine hS1.mono ?_); rintro e w1 ⟨rfl, hb1⟩; have hbel1 := hbel.trans (hb1.mono hz1); have c1 := (hb1.cell (lt_of_cell c0).1).trans c0) | fail)
            go_quiet (fail)
            go_wp2_with fail
            go_quiet (fail)
            go_wp2_with (first | ((with_reducible refine (hS2' _).mono ?_); rintro e w2 ⟨rfl, hb2⟩) | fail)
            go_roundw
            case rel => exact ⟨k + 1, by omega, by rw [hp2, HN.out], HK, (below_drewN hbel1 _).trans (hb2.mono (Nat.le_trans hz1 hb1.size))⟩
            case measure => simp [intOf]; have := HM.out; have := HN.out; omega
      · obtain rfl : k = l.length := by omega
        have i1 : ¬ (d.size : Int) < (d.size : Int) := by omega
        have HK := Lib.hid (look_none (l := l) (n := n) (fun x hx => by
          obtain ⟨j, hj, rfl⟩ := List.getElem_of_mem hx
          exact hnk.out j hj hj))
        rw [HE.out, ← HS.out]
        go_wp2_with fail
        go_ret
        rw [HK.out]
        exact ⟨rfl, hbw⟩
set_option maxRecDepth 100000 in
set_option maxHeartbeats 4000000 in
theorem has_any (l : List Lb) (n : ByteArray) (w : World) (ha : Asc l) (hne : ∀ x ∈ l, x.1.size ≠ 0) (hf : FitL l) (hd : (encL l).length ≤ 1073741824) (hl : l.length ≤ 1000000) :
    Calls Tryz.prog 83 #[lbsV l, .string n] w fun e w' => e = .returned (.bool (look l n).isSome) ∧ Below w.heap.size w w' := by
  unfold lbsV
  have hb0 := below_new w (.cells #[.string ⟨(encL l).toArray⟩] LST)
  by_cases n0 : n.size = 0
  · have hn := Lib.hid (look_none (l := l) (n := n) (fun x hx c => hne x hx (by rw [c]; exact n0)))
    obtain rfl := str_nil0 n0
    clear n0
    generalize (⟨(encL l).toArray⟩ : ByteArray) = d at *
    go_enter Tryz.func83, Tryz.ntmps83
    go_wp2_with fail
    go_ret
    rw [hn.out]
    exact ⟨rfl, hb0⟩
  · have en := str_nil n0
    obtain ⟨na, nar, hnl, hn0, hng⟩ := cons_of n0
    have hn0' : (0 : Int) < (n.size : Int) := by omega
    have hsz : (⟨(encL l).toArray⟩ : ByteArray).size = (encL l).length := by simp [ByteArray.size]
    have hat := fun k hk => posL_at l k hk
    have hend := posL_end l
    generalize hdd : (⟨(encL l).toArray⟩ : ByteArray) = d at *
    have HE := Lib.hid hend
    have HS := Lib.hid hsz
    have hB := Blk.new w [.string d] LST
    have HNL := Lib.hid hnl
    clear hend hsz hdd n0 hnl
    go_enter Tryz.func83, Tryz.ntmps83
    go_wp2_with fail
    go_loopw [5] (fun i wr => ∃ k : Nat, k ≤ l.length ∧ i = .int .i64 (posL l k : Nat) ∧ Hid (∀ j (hj : j < k) (hjl : j < l.length), l[j].1 ≠ n) ∧ Below (w.heap.size + 1) (w.alloc (.cells #[.string d] LST)) wr) (fun i _ => d.size - (intOf i).toNat)
    case atStart => exact ⟨0, Nat.zero_le _, rfl, Lib.hid (fun j hj => absurd hj (by omega)), Below.refl _ _⟩
    case round => as_aux_lemma =>
      obtain ⟨k, hk, rfl, hnk, hbel⟩ := hrel
      have c0 := (hbel.cell (p := ⟨w.heap.size, 0, none⟩) (Nat.lt_succ_self _)).trans (hB.cell 0)
      simp only [List.getElem?_cons_zero] at c0
      have hbw : Below w.heap.size w wr := hb0.trans (hbel.mono (Nat.le_succ _))
      have hz1 : w.heap.size + 1 ≤ wr.heap.size := by have := hbel.size; simpa using this
      by_cases hlt : k < l.length
      · have hA := hat k hk
        have hl0 := posL_lt hlt
        rw [← HS.out] at hl0
        have hfx := hf _ (List.getElem_mem hlt)
        have hnx := hne _ (List.getElem_mem hlt)
        have hN := posL_next hlt
        rw [List.drop_eq_getElem_cons hlt, encL_cons] at hA
        have hA2 := hA.skip
        have hA1 : From d (posL l k) (szE l[k].1.size ++ (l[k].1.data.toList ++ (strE l[k].2 ++ encL (l.drop (k + 1))))) := by
          have := hA
          unfold strE at this ⊢
          simpa only [List.append_assoc] using this
        have hA1b := hA1.skip
        rw [szE_length] at hA1b
        have hcut := hA1b.cut
        have hszA := hA1b.size
        rw [List.length_append, show l[k].1.data.toList.length = l[k].1.size from rfl] at hszA
        have hq1 := strE_length l[k].1
        obtain ⟨xa, xar, hxl, hx0, hxg⟩ := cons_of hnx
        have hq0 := szN_pos l[k].1.size
        have hdp : posL l k + szN l[k].1.size < d.size := by omega
        have hg0 : d[posL l k + szN l[k].1.size]'hdp = xa := by
          have h1 := hA1b.get 0 (by rw [List.length_append, show l[k].1.data.toList.length = l[k].1.size from rfl]; omega) hdp
          simp only [Nat.add_zero] at h1
          rw [h1, List.getElem_append_left (by rw [show l[k].1.data.toList.length = l[k].1.size from rfl]; omega)]
          exact hxg
        have hle2 : posL l (k + 1) ≤ d.size := (hat (k + 1) hlt).2
        rw [← HS.out] at hd
        have hS1 := decSize_any d (posL l k) l[k].1.size _ wr hA1 hfx.1 hd
        rw [hq1, ← Nat.add_assoc] at hA2 hN
        have hA3 : From d (posL l k + szN l[k].1.size + l[k].1.size) (szE l[k].2.size ++ (l[k].2.data.toList ++ encL (l.drop (k + 1)))) := by
          have := hA2
          unfold strE at this
          simpa only [List.append_assoc] using this
        have hS2 := fun w => decSize_any d _ l[k].2.size _ w hA3 hfx.2 hd
        have hV := fun w => decStr_any d l[k].2 _ _ w hA2 hfx.2 hd
        rw [strE_length] at hN
        have HK1 := Lib.hid (fun e => look_at hlt hnk.out e)
        have HK2 := Lib.hid (fun e => look_past ha hlt hnk.out e)
        have HK3 := Lib.hid (show l[k].1 ≠ n → ∀ j (hj : j < k + 1) (hjl : j < l.length), l[j].1 ≠ n from fun e j hj hjl => by
          by_cases c : j = k
          · subst c; exact e
          · exact hnk.out j (by omega) hjl)
        have HXL := Lib.hid hxl
        clear hA hA1 hA1b hA2 hA3 hfx hnx hat hq1 hxl hx0 hxg hnk
        generalize hp2 : posL l (k + 1) = p2 at *
        generalize posL l k = p at *
        generalize l[k] = x at *
        obtain ⟨x1, x2⟩ := x
        simp only at hS1 hS2 hV hN hg0 hcut hdp hszA
        generalize szN x1.size = q1 at *
        generalize szN x2.size = q2 at *
        have i1 : (p : Int) < (d.size : Int) := by omega
        have i2 : (0 : Int) ≤ (p : Int) + (q1 : Int) := by omega
        have i3 : (p : Int) + (q1 : Int) < (d.size : Int) := by omega
        have t1 : ((p : Int) + (q1 : Int)).toNat = p + q1 := by omega
        have t2 : ((p : Int) + (q1 : Int) + (x1.size : Int)).toNat = p + q1 + x1.size := by omega
        have i4 : (p : Int) + (q1 : Int) + (x1.size : Int) ≤ (d.size : Int) := by omega
        have i5 : (0 : Int) ≤ (p : Int) + (q1 : Int) + (x1.size : Int) := by omega
        have i6 : (p : Int) + (q1 : Int) ≤ (p : Int) + (q1 : Int) + (x1.size : Int) := by omega
        have HN := Lib.hid (show ((p2 : Nat) : Int) = (p : Int) + (q1 : Int) + (x1.size : Int) + (q2 : Int) + (x2.size : Int) by omega)
        have HM := Lib.hid (show p < p2 ∧ p2 ≤ d.size from ⟨by omega, by omega⟩)
        have hS2' : ∀ w, Calls Tryz.prog 105 #[.string d, .int .i64 ((p : Int) + (q1 : Int) + (x1.size : Int))] w fun e w' => e = .returned (.tuple #[.int .i64 x2.size, .int .i64 ((p : Int) + (q1 : Int) + (x1.size : Int) + (q2 : Int))]) ∧ Below w.heap.size w w' := fun w => by
          have := hS2 w
          simp only [Int.natCast_add] at this
          exact this
        have hV' : ∀ w, Calls Tryz.prog 99 #[.string d, .int .i64 ((p : Int) + (q1 : Int) + (x1.size : Int))] w fun e w' => e = .returned (.tuple #[.string x2, .int .i64 ((p + q1 + x1.size + (strE x2).length : Nat) : Int)]) ∧ Below w.heap.size w w' := fun w => by
          have := hV w
          rw [show ((p + q1 + x1.size : Nat) : Int) = (p : Int) + (q1 : Int) + (x1.size : Int) by simp only [Int.natCast_add]] at this
          exact this
        have u1 : IntKind.i64.wrap ((p : Int) + (q1 : Int) + (x1.size : Int) + (q2 : Int) + (x2.size : Int)) = (p : Int) + (q1 : Int) + (x1.size : Int) + (q2 : Int) + (x2.size : Int) := IntWalk.i64_in _ (by omega)
        clear hS2 hV hN hszA hle2 hl0 hq0
        by_cases hh : xa = na
        · subst hh
          by_cases hxn : x1 = n
          · have HK := Lib.hid (HK1.out hxn)
            have hxe : (x1.toList == n.toList) = true := by rw [hxn]; simp
            clear hxn
            go_wp2_with (first | ((with_reducible refine hS1.mono ?_); rintro e w1 ⟨rfl, hb1⟩; have hbel1 := hbel.trans (hb1.mono hz1); have c1 := (hb1.cell (lt_of_cell c0).1).trans c0) | fail)
            go_quiet (fail)
            go_wp2_with fail
            go_ret
            rw [HK.out]
            exact ⟨rfl, below_drewN (hbw.trans (hb1.mono hbw.size)) nq⟩
          · have HK := Lib.hid (HK3.out hxn)
            have hxe := str_ne hxn
            clear hxn
            go_wp2_with (first | ((with_reducible refine hS1.mono ?_); rintro e w1 ⟨rfl, hb1⟩; have hbel1 := hbel.trans (hb1.mono hz1); have c1 := (hb1.cell (lt_of_cell c0).1).trans c0) | fail)
            go_quiet (fail)
            go_wp2_with (first | ((with_reducible refine (hS2' _).mono ?_); rintro e w2 ⟨rfl, hb2⟩) | fail)
            go_roundw
            case rel => exact ⟨k + 1, by omega, by rw [hp2, HN.out], HK, (below_drewN hbel1 nq).trans (hb2.mono (Nat.le_trans hz1 hb1.size))⟩
            case measure => simp [intOf]; have := HM.out; have := HN.out; omega
        · have hne' := u8_ne hh
          have HKn := Lib.hid (HK3.out (by
            rintro c
            have e1 := HXL.out
            have e2 := HNL.out
            simp only at e1 c
            rw [c, e2] at e1
            exact hh (List.cons.inj e1).1.symm))
          by_cases hg : na < xa
          · have HK := Lib.hid (HK2.out (lt_of_head HNL.out HXL.out hg))
            have hg' : ((na.toNat : Int) < (xa.toNat : Int)) := by have := UInt8.lt_iff_toNat_lt.1 hg; omega
            clear hg
            go_wp2_with (first | ((with_reducible refine hS1.mono ?_); rintro e w1 ⟨rfl, hb1⟩; have hbel1 := hbel.trans (hb1.mono hz1); have c1 := (hb1.cell (lt_of_cell c0).1).trans c0) | fail)
            go_quiet (fail)
            go_wp2_with fail
            go_quiet (fail)
            go_wp2_with fail
            go_ret
            rw [HK.out]
            exact ⟨rfl, below_drewN (below_drewN (hbw.trans (hb1.mono hbw.size)) _) _⟩
          · have hg' : ¬ ((na.toNat : Int) < (xa.toNat : Int)) := by intro c; exact hg (UInt8.lt_iff_toNat_lt.2 (by omega))
            have HK := HKn
            clear hg
            go_wp2_with (first | ((with_reducible refine hS1.mono ?_); rintro e w1 ⟨rfl, hb1⟩; have hbel1 := hbel.trans (hb1.mono hz1); have c1 := (hb1.cell (lt_of_cell c0).1).trans c0) | fail)
            go_quiet (fail)
            go_wp2_with fail
            go_quiet (fail)
            go_wp2_with (first | ((with_reducible refine (hS2' _).mono ?_); rintro e w2 ⟨rfl, hb2⟩) | fail)
            go_roundw
            case rel => exact ⟨k + 1, by omega, by rw [hp2, HN.out], HK, (below_drewN hbel1 _).trans (hb2.mono (Nat.le_trans hz1 hb1.size))⟩
            case measure => simp [intOf]; have := HM.out; have := HN.out; omega
      · obtain rfl : k = l.length := by omega
        have i1 : ¬ (d.size : Int) < (d.size : Int) := by omega
        have HK := Lib.hid (look_none (l := l) (n := n) (fun x hx => by
          obtain ⟨j, hj, rfl⟩ := List.getElem_of_mem hx
          exact hnk.out j hj hj))
        rw [HE.out, ← HS.out]
        go_wp2_with fail
        go_ret
        rw [HK.out]
        exact ⟨rfl, hbw⟩
end Go.Proofs.YtapoodnjkkhggaaGreat
