/-
  spec.Encode: the bytes of each datum, one behind the other.
-/
import Derived.Test.YtkbkggamfkadnaaGreatDoorEz3
import Derived.Test.YtkbkggamfkadnaaGreatDoorEzB
import Derived.StillTailTactics
import Derived.Deep.RegionHeld3
namespace Go.Proofs.YtkbkggamfkadnaaGreatDoor
set_option linter.unusedSimpArgs false
set_option linter.unusedVariables false
open Go.RowKit

/-- behind PutVar, ahead of an append -/
def Aft (base X : Nat) (S : List UInt8) (sv : Value) (B : List UInt8) (w : World) (e : Ending) (w1 : World) : Prop := ∃ a2 n2 c2, e = .returned (.slice a2 n2 c2) ∧ w1.cell? ⟨X, 2, none⟩ = some sv ∧ ∃ a3 n3 c3 w2, Hid ((Builtin.append_ #[22, 22] 22 #[.slice a2 n2 c2, sv]).run Tryz.prog w1 = .ok (.slice a3 n3 c3) w2) ∧ w2.ownsRow base 5 1 (.slice a3 n3 c3) (B ++ S).length (Lib.byteCells (B ++ S)) ∧ Below base w w2 ∧ w2.cell? ⟨X, 2, none⟩ = some sv
theorem kind_ne {k c : Nat} (h : k ≠ c) : (((k : Nat) : Int) == ((c : Nat) : Int)) = false := by simp; omega
set_option maxRecDepth 100000 in
set_option maxHeartbeats 16000000 in
theorem specEncode_any (v : Value) (L : List It) (w : World) (hI : DatIt w v L) (hF : ∀ x ∈ L, FitD x) (hl : L.length ≤ 30) :
    Calls Tryz.prog 12 #[v] w fun e w' => ∃ x, e = .returned x ∧ Bytes w' x (encs L) ∧ Below w.heap.size w w' := by
  have hEL := encs_length L hF
  obtain ⟨ao, cap, rfl⟩ := hI.form
  have hat := hI.at_ _ _ _ rfl
  clear hI
  go_enter Tryz.func12, Tryz.ntmps12
  go_wp2_with fail
  go_loopw [3, 4] (fun bv i wr => ∃ (k : Nat) (bs : List UInt8), k ≤ L.length ∧ i = .int .i64 k ∧ Hid (bs = encs (L.take k)) ∧ bs.length ≤ 900000 ∧ wr.ownsRow w.heap.size 5 1 bv bs.length (Lib.byteCells bs) ∧ Below w.heap.size w wr) (fun _ i _ => L.length - (intOf i).toNat)
  case atStart => exact ⟨0, [], Nat.zero_le _, rfl, Lib.hid (by simp [encs]), by simp, World.ownsRow_nil _ _ _ _, Below.refl _ _⟩
  case round =>
    obtain ⟨k, bs, hk, rfl, hbs, hbl, ho, hbel⟩ := hrel
    obtain ⟨a1, c1, rfl⟩ := own_form ho
    by_cases hlt : k < L.length
    · obtain ⟨b, off, rfl, hb, hcc⟩ := hat (by omega)
      obtain ⟨sa, sc, f0, f1, f2, f3⟩ := hcc k hlt
      have hT := Lib.hid (show encs (L.take (k + 1)) = bs ++ encD L[k] by rw [hbs.out]; exact encs_snoc hlt)
      have hbl2 : (bs ++ encD L[k]).length ≤ 900000 := by
        rw [← hT.out]
        have := encs_length (L.take (k + 1)) (fun x hx => hF x (List.mem_of_mem_take hx))
        rw [List.length_take] at this
        omega
      have hfit := hF L[k] (List.getElem_mem _)
      have g0 := (hbel.cell (p := ⟨b, off + k * 3, none⟩) hb).trans f0
      have g1 := (hbel.cell (p := ⟨b, off + k * 3 + 1, none⟩) hb).trans f1
      have g2 := (hbel.cell (p := ⟨b, off + k * 3 + 2, none⟩) hb).trans f2
      have g3 : BB wr w.heap.size (.slice sa L[k].2.2.length sc) L[k].2.2 := Sl.below f3 hbel (Nat.le_refl _)
      have i1 : (k : Int) < (L.length : Int) := by omega
      have hzr := hbel.size
      clear hcc f0 f1 f2 f3 hbs
      generalize L[k] = x at *
      obtain ⟨kk, N, S⟩ := x
      obtain ⟨h1, h2, h3, h4, h5, h6⟩ := hfit
      simp only at h1 h2 h3 h4 h5 h6 g0 g1 g2 g3
      have n0 : (0 : Int) ≤ (N : Int) := by omega
      have n1 : (N : Int) ≤ 18446744073709551615 := by omega
      have hX := Blk.new wr [.int .i64 kk, .int .u64 N, .slice sa S.length sc] 28
      have hoW := own_alloc ho (.cells #[.int .i64 kk, .int .u64 N, .slice sa S.length sc] 28)
      have hbW : Below w.heap.size w (wr.alloc (.cells #[.int .i64 kk, .int .u64 N, .slice sa S.length sc] 28)) := hbel.alloc hzr _
      have hBW : BB (wr.alloc (.cells #[.int .i64 kk, .int .u64 N, .slice sa S.length sc] 28)) w.heap.size (.slice sa S.length sc) S := Sl.below g3 (below_new wr _) (by omega)
      have hzW := hbW.size
      clear ho hbel g3
      go_upto_region 6 with fail
      have hX0 := hX
      generalize wr.alloc (.cells #[.int .i64 kk, .int .u64 N, .slice sa S.length sc] 28) = W at *
      have x0 := hX.cell 0
      have x1 := hX.cell 1
      have x2 := hX.cell 2
      have y0 := hX.drew.cell 0
      have y1 := hX.drew.cell 1
      have y2 := hX.drew.cell 2
      -- kinds
      by_cases hv : kk = 6 ∨ kk = 7 ∨ kk = 8
      · have HD := Lib.hid (show encD (kk, N, S) = Lib.uvarint N by unfold encD; rcases hv with rfl | rfl | rfl <;> simp)
        have hP := putVar_any w.heap.size N _ bs _ hoW (by omega) h2 hzW
        clear h1 h2 h3 h4 h5 n1
        rcases hv with rfl | rfl | rfl
        all_goals
          go_wp2_with fail
          refine hP.mono ?_
          clear hP
          rintro e w1 ⟨v1, rfl, ho1, hc1, hk1⟩
          go_wp2_with fail
          go_roundw
          case rel => exact ⟨k + 1, _, by omega, by go_num, Lib.hid (by rw [hT.out, HD.out]), by rw [← HD.out]; exact hbl2, ho1, hbW.trans (hc1.below _ hzW (fun q hq h => by omega))⟩
          case measure => simp [intOf]; omega
      by_cases h9 : kk = 9
      · subst h9
        have HD := Lib.hid (show encD (9, N, S) = Lib.uvarint (Lib.zigzag (IntKind.i64.wrap (N : Int))) by simp [encD])
        have hZ := fun W => zig_any N h2 W
        have hP := putVar_any w.heap.size (Lib.zigzag (IntKind.i64.wrap (N : Int))) _ bs _ hoW (by omega) (zigzag_lt (wrap_i64 N).1 (wrap_i64 N).2) hzW
        generalize Lib.zigzag (IntKind.i64.wrap (N : Int)) = z at *
        clear h1 h2 h3 h4 h5 n1
        go_wp2_with fail
        refine (hZ _).mono ?_
        clear hZ
        rintro e w' ⟨rfl, rfl⟩
        go_wp2_with fail
        refine hP.mono ?_
        clear hP
        rintro e w1 ⟨v1, rfl, ho1, hc1, hk1⟩
        go_wp2_with fail
        go_roundw
        case rel => exact ⟨k + 1, _, by omega, by go_num, Lib.hid (by rw [hT.out, HD.out]), by rw [← HD.out]; exact hbl2, ho1, hbW.trans (hc1.below _ hzW (fun q hq h => by omega))⟩
        case measure => simp [intOf]; omega
      by_cases hs : kk = 10 ∨ kk = 11
      · have HD := Lib.hid (show encD (kk, N, S) = Lib.uvarint S.length ++ S by unfold encD; rcases hs with rfl | rfl <;> simp)
        have hoD := own_drew hoW
        have hbD := hbW.drew
        have hXD := hX.drew
        have hBD : BB W.drew w.heap.size (.slice sa S.length sc) S := hBW
        have hP := putVar_any w.heap.size S.length _ bs _ hoD (by omega) (by omega) hzW
        have hul := Lib.uvarint_length64 (x := S.length) (by omega)
        have hn : (S.length : Int) ≤ 300 := by omega
        have hn0 : (0 : Int) ≤ (S.length : Int) := by omega
        have hwU : IntKind.u64.wrap (S.length : Int) = (S.length : Int) := by simp [IntKind.wrap, IntKind.bits, IntKind.signed]; omega
        have hne : 28 ≠ 5 := by decide
        have z2 : W.drew.cell? ⟨wr.heap.size, 2, none⟩ = some (.slice sa S.length sc) := hX.drew.cell 2
        have hAp : ∀ (B : List UInt8) (w1 : World) (v1 : Value), B.length ≤ 1000000 → w1.ownsRow w.heap.size 5 1 v1 B.length (Lib.byteCells B) → Chg (fun q => w.heap.size ≤ q) W.drew w1 → ∃ v2 w2, Hid ((Builtin.append_ #[22, 22] 22 #[v1, .slice sa S.length sc]).run Tryz.prog w1 = .ok v2 w2) ∧ w2.ownsRow w.heap.size 5 1 v2 (B ++ S).length (Lib.byteCells (B ++ S)) ∧ Below w.heap.size w w2 ∧ KeepT w1 w2 ∧ ∃ a3 n3 c3, v2 = .slice a3 n3 c3 := by
          intro B w1 v1 hBl h1 h2
          have hbz := hbD.size
          have hb1 : Below w.heap.size w w1 := hbD.trans (h2.below _ hbz (fun q hq h => by omega))
          have hB1 : Bytes w1 (.slice sa S.length sc) S := Sl.mono (Sl.below hBD (h2.below _ hbz (fun q hq h => by omega)) (Nat.le_refl _)) hb1.size (Nat.le_refl _)
          obtain ⟨xa, xc, hxe, hsrc⟩ := src_bytes hB1
          obtain ⟨v2, w2, hr, ho2, hg2⟩ := own_src_append h1 22 _ _ _ hsrc (by omega) hb1.size
          obtain ⟨a3, c3, rfl⟩ := own_form ho2
          exact ⟨_, _, Lib.hid hr, by rw [List.length_append, bytes_app]; exact ho2, hb1.grown hg2 hb1.size (fun q hq => (h1.lt q hq).1), (KeepT.refl w1).grown h1 hg2, _, _, _, rfl⟩
        obtain ⟨B, hB⟩ : ∃ B, bs ++ Lib.uvarint S.length = B := ⟨_, rfl⟩
        have hBl : B.length ≤ 1000000 := by rw [← hB, List.length_append]; omega
        rw [hB] at hP
        have HB := Lib.hid hB
        have hAp := fun w1 v1 => hAp B w1 v1 hBl
        clear hB hBl hul
        have hP2 : Calls Tryz.prog 43 #[.slice a1 bs.length c1, .int .u64 S.length] W.drew (Aft w.heap.size wr.heap.size S (.slice sa S.length sc) B w) := by
          refine hP.mono ?_
          rintro e w1 ⟨v1, rfl, ho1, hc1, hk1⟩
          have hS1 : w1.cell? ⟨wr.heap.size, 2, none⟩ = some (.slice sa S.length sc) := (hk1.blk hXD hne).cell 2
          obtain ⟨v2, w2, hr, ho2, hb2, hk2, a3, n3, c3, rfl⟩ := hAp w1 _ ho1 hc1
          have hS2 : w2.cell? ⟨wr.heap.size, 2, none⟩ = some (.slice sa S.length sc) := (hk2.blk (hk1.blk hXD hne) hne).cell 2
          obtain ⟨a2, c2, rfl⟩ := own_form ho1
          exact ⟨_, _, _, rfl, hS1, _, _, _, _, hr, ho2, hb2, hS2⟩
        clear hP hAp
        clear h1 h2 h3 h4 h5 n1 hoW
        rcases hs with rfl | rfl
        all_goals
          go_wp2_with fail
          go_region_held3 (fun w' => w'.cell? ⟨wr.heap.size, 2, none⟩ = some (.slice sa S.length sc)) (first | (with_reducible exact z2) | (with_reducible exact hS1) | (with_reducible exact hS2) | fail) (first
            | (go_at_call 43; (with_reducible refine hP2.mono ?_); rintro e w1 ⟨a2, n2, c2, rfl, hS1, a3, n3, c3, w2, hr, ho2, hb2, hS2⟩; clear hP2)
            | (refine step_run 22 22 rfl (.tmp 48) (.tmp 50) rfl rfl rfl rfl hr.out ?_)
            | fail)
          go_wp2_with fail
          go_roundw
          case rel => exact ⟨k + 1, B ++ S, by omega, by go_num, Lib.hid (by rw [hT.out, HD.out, ← HB.out, List.append_assoc]), by rw [← HB.out, List.append_assoc, ← HD.out]; exact hbl2, ho2, hb2⟩
          case measure => simp [intOf]; omega
      by_cases h12 : kk = 12
      · subst h12
        have HD := Lib.hid (show encD (12, N, S) = S by simp [encD])
        obtain ⟨xa, xc, hxe, hsrc⟩ := src_bytes (Sl.mono hBW hzW (Nat.le_refl _) : Bytes _ _ S)
        obtain ⟨v1, w1, hr, ho1, hg1⟩ := own_src_append hoW 22 _ _ _ hsrc (by omega) hzW
        obtain ⟨a2, c2, rfl⟩ := own_form ho1
        have hbg := hbW.grown hg1 hzW (fun q hq => (hoW.lt q hq).1)
        have HR := Lib.hid hr
        clear hr hsrc hxe h1 h2 h3 h4 h5 n1
        go_wp2_with (first
          | (at_builtin; refine list_run 22 22 rfl (.tmp 54) (.tmp 56) rfl rfl rfl rfl HR.out ?_)
          | fail)
        go_roundw
        case rel => exact ⟨k + 1, _, by omega, by go_num, Lib.hid (by rw [hT.out, HD.out]), by rw [← HD.out]; exact hbl2, by rw [List.length_append, bytes_app]; exact ho1, hbg⟩
        case measure => simp [intOf]; omega
      have hkk : kk ≤ 5 := by omega
      have hk6 : kk = 0 ∨ kk = 1 ∨ kk = 2 ∨ kk = 3 ∨ kk = 4 ∨ kk = 5 := by omega
      have hWd := specWide_any kk (by omega) W.drew
      have hWd2 := hWd.mono (fun e w' ⟨h1, h2⟩ => (⟨h1, h2.symm⟩ : e = _ ∧ w' = _))
      have hoD := own_drew hoW
      have hbD := hbW.drew
      clear hWd h1 h3 h4 h5 n1 hoW
      rcases hk6 with rfl | rfl | rfl | rfl | rfl | rfl
      · have HD := Lib.hid (show encD (0, N, S) = Lib.beBytes 1 N by simp [encD])
        have hP := putBig1_any w.heap.size N _ bs _ hoD (by omega) h2 hzW
        clear h2
        go_wp2_with fail
        go_still_tail 6, (by kernel_rfl)
        still_call hWd2
        repeat still_step
        refine wpStill_nil ?_
        change wpList _ _ _ _ _ W.drew
        clear hWd2
        generalize W.drew = WD at *
        go_wp2_with fail
        refine hP.mono ?_
        clear hP
        rintro e w1 ⟨v1, rfl, ho1, hc1, hk1⟩
        go_wp2_with fail
        go_roundw
        case rel => exact ⟨k + 1, _, by omega, by go_num, Lib.hid (by rw [hT.out, HD.out]), by rw [← HD.out]; exact hbl2, ho1, hbD.trans (hc1.below _ hbD.size (fun q hq h => by omega))⟩
        case measure => simp [intOf]; omega
      · have HD := Lib.hid (show encD (1, N, S) = Lib.beBytes 4 N by simp [encD])
        have hP := putBig4_any w.heap.size N _ bs _ hoD (by omega) h2 hzW
        clear h2
        go_wp2_with fail
        go_still_tail 6, (by kernel_rfl)
        still_call hWd2
        repeat still_step
        refine wpStill_nil ?_
        change wpList _ _ _ _ _ W.drew
        clear hWd2
        generalize W.drew = WD at *
        go_wp2_with fail
        refine hP.mono ?_
        clear hP
        rintro e w1 ⟨v1, rfl, ho1, hc1, hk1⟩
        go_wp2_with fail
        go_roundw
        case rel => exact ⟨k + 1, _, by omega, by go_num, Lib.hid (by rw [hT.out, HD.out]), by rw [← HD.out]; exact hbl2, ho1, hbD.trans (hc1.below _ hbD.size (fun q hq h => by omega))⟩
        case measure => simp [intOf]; omega
      · have HD := Lib.hid (show encD (2, N, S) = Lib.beBytes 8 N by simp [encD])
        have hP := putBig8_any w.heap.size N _ bs _ hoD (by omega) h2 hzW
        clear h2
        go_wp2_with fail
        go_still_tail 6, (by kernel_rfl)
        still_call hWd2
        repeat still_step
        refine wpStill_nil ?_
        change wpList _ _ _ _ _ W.drew
        clear hWd2
        generalize W.drew = WD at *
        go_wp2_with fail
        refine hP.mono ?_
        clear hP
        rintro e w1 ⟨v1, rfl, ho1, hc1, hk1⟩
        go_wp2_with fail
        go_roundw
        case rel => exact ⟨k + 1, _, by omega, by go_num, Lib.hid (by rw [hT.out, HD.out]), by rw [← HD.out]; exact hbl2, ho1, hbD.trans (hc1.below _ hbD.size (fun q hq h => by omega))⟩
        case measure => simp [intOf]; omega
      · have HD := Lib.hid (show encD (3, N, S) = Lib.beBytes 4 N by simp [encD])
        have hP := putBig4_any w.heap.size N _ bs _ hoD (by omega) h2 hzW
        clear h2
        go_wp2_with fail
        go_still_tail 6, (by kernel_rfl)
        still_call hWd2
        repeat still_step
        refine wpStill_nil ?_
        change wpList _ _ _ _ _ W.drew
        clear hWd2
        generalize W.drew = WD at *
        go_wp2_with fail
        refine hP.mono ?_
        clear hP
        rintro e w1 ⟨v1, rfl, ho1, hc1, hk1⟩
        go_wp2_with fail
        go_roundw
        case rel => exact ⟨k + 1, _, by omega, by go_num, Lib.hid (by rw [hT.out, HD.out]), by rw [← HD.out]; exact hbl2, ho1, hbD.trans (hc1.below _ hbD.size (fun q hq h => by omega))⟩
        case measure => simp [intOf]; omega
      · have HD := Lib.hid (show encD (4, N, S) = Lib.beBytes 8 N by simp [encD])
        have hP := putBig8_any w.heap.size N _ bs _ hoD (by omega) h2 hzW
        clear h2
        go_wp2_with fail
        go_still_tail 6, (by kernel_rfl)
        still_call hWd2
        repeat still_step
        refine wpStill_nil ?_
        change wpList _ _ _ _ _ W.drew
        clear hWd2
        generalize W.drew = WD at *
        go_wp2_with fail
        refine hP.mono ?_
        clear hP
        rintro e w1 ⟨v1, rfl, ho1, hc1, hk1⟩
        go_wp2_with fail
        go_roundw
        case rel => exact ⟨k + 1, _, by omega, by go_num, Lib.hid (by rw [hT.out, HD.out]), by rw [← HD.out]; exact hbl2, ho1, hbD.trans (hc1.below _ hbD.size (fun q hq h => by omega))⟩
        case measure => simp [intOf]; omega
      · have HD := Lib.hid (show encD (5, N, S) = Lib.beBytes 8 N by simp [encD])
        have hP := putBig8_any w.heap.size N _ bs _ hoD (by omega) h2 hzW
        clear h2
        go_wp2_with fail
        go_still_tail 6, (by kernel_rfl)
        still_call hWd2
        repeat still_step
        refine wpStill_nil ?_
        change wpList _ _ _ _ _ W.drew
        clear hWd2
        generalize W.drew = WD at *
        go_wp2_with fail
        refine hP.mono ?_
        clear hP
        rintro e w1 ⟨v1, rfl, ho1, hc1, hk1⟩
        go_wp2_with fail
        go_roundw
        case rel => exact ⟨k + 1, _, by omega, by go_num, Lib.hid (by rw [hT.out, HD.out]), by rw [← HD.out]; exact hbl2, ho1, hbD.trans (hc1.below _ hbD.size (fun q hq h => by omega))⟩
        case measure => simp [intOf]; omega
    · obtain rfl : k = L.length := by omega
      have i1 : ¬ (L.length : Int) < (L.length : Int) := by omega
      have hfin := Bytes.own ho
      have HE := Lib.hid (show bs = encs L by rw [hbs.out, List.take_length])
      go_wp2_with fail
      go_ret
      exact ⟨_, rfl, by rw [← HE.out]; exact hfin, hbel⟩
end Go.Proofs.YtkbkggamfkadnaaGreatDoor
