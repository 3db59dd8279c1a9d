/-
  spec.Decode: its walk.
-/
import Derived.Test.YtkbkggamfkadnaaGreatDoorDy5
namespace Go.Proofs.YtkbkggamfkadnaaGreatDoor
set_option linter.unusedSimpArgs false
set_option linter.unusedVariables false
open Go.RowKit

set_option maxRecDepth 100000 in
set_option maxHeartbeats 8000000 in
theorem specDecode_any (v : Value) (l : List UInt8) (kv : Value) (K : List (Int × Int × Value)) (w : World) (hv : Bytes w v l) (hl : l.length ≤ 2147483647) (hK : Dats w w.heap.size kv K) (hKl : K.length ≤ 1000) (hk : KindsOk K) :
    Calls Tryz.prog 8 #[v, kv] w fun e w' => SPost w l K e w' := by
  obtain ⟨a, c, rfl, h1, h2⟩ := hv.form
  obtain ⟨ka, kc, rfl, k1, k2⟩ := hK.form
  go_enter Tryz.func8, Tryz.ntmps8
  go_wp2_with fail
  obtain ⟨i0, hi, hz0, hz1, hz2⟩ := info_parts infoDat
  obtain ⟨j0, hj, hy0, hy1, hy2⟩ := info_parts infoInt
  go_loopw [0, 7, 8, 9] (fun bv ov lv i wr => ∃ (k : Nat) (m : List UInt8) (Ls Fs : List Value), k ≤ K.length ∧ i = .int .i64 k ∧ (runS ((K.take k).map kn) l).2 = some (some m) ∧ (runS ((K.take k).map kn) l).1.length = k ∧ m.length ≤ 2147483647 ∧ BB wr w.heap.size bv m ∧ Below w.heap.size w wr ∧ wr.ownsRow w.heap.size DaT 3 ov k Ls ∧ wr.ownsRow w.heap.size 3 1 lv k Fs ∧ SsOk wr w.heap.size K (runS ((K.take k).map kn) l).1 Ls Fs) (fun _ _ _ i _ => K.length - (intOf i).toNat)
  case atStart => exact ⟨0, l, [], [], Nat.zero_le _, rfl, rfl, rfl, hl, hv, Below.refl _ _, World.ownsRow_nil _ _ _ _, World.ownsRow_nil _ _ _ _, rfl, rfl, fun i hi => absurd hi (by show ¬ i < 0; omega)⟩
  case round =>
    obtain ⟨k, m, Ls, Fs, hkl, rfl, hst, hxl, hml, hbb, hbel, hLs, hFs, hxs⟩ := hrel
    obtain ⟨za, zc, rfl⟩ := own_form hLs
    obtain ⟨fa, fc, rfl⟩ := own_form hFs
    obtain ⟨ba, bc, rfl, g1, g2⟩ := hbb.form
    have hWz := hbel.size
    by_cases hlt : k < K.length
    · have hkk := hk K[k] (List.getElem_mem _)
      obtain ⟨q1, q2, q3, q4, sa, sn, sc, q5⟩ := hkk
      obtain ⟨b, off, rfl, hbb2, _, hcells⟩ := Dats.at_ (w := wr) (Sl.below hK hbel (Nat.le_refl _)) (by omega)
      obtain ⟨f0, f1, f2⟩ := hcells k hlt
      obtain ⟨kk, hkk⟩ : ∃ kk : Nat, K[k].1 = (kk : Int) := ⟨K[k].1.toNat, by omega⟩
      obtain ⟨N, hNN⟩ : ∃ N : Nat, K[k].2.1 = (N : Int) := ⟨K[k].2.1.toNat, by omega⟩
      rw [hkk] at f0 q2
      rw [hNN] at f1 q4
      have hkkn : kk ≤ 12 := by omega
      have hNle : N ≤ 4294967296 := by omega
      have htk : (K.take (k + 1)).map kn = (K.take k).map kn ++ [(kk, N)] := by
        rw [take_next hlt, List.map_append]
        simp [kn, hkk, hNN]
      have hQ := Blk.new wr [.int .i64 kk, .int .u64 0, .slice none 0 0] DaT
      have hbn := below_new wr (.cells #[.int .i64 kk, .int .u64 0, .slice none 0 0] DaT)
      have hzQ : (wr.alloc (.cells #[.int .i64 kk, .int .u64 0, .slice none 0 0] DaT)).heap.size = wr.heap.size + 1 := by simp
      have hq1 : (k : Int) < (K.length : Int) := by omega
      have HB := Lib.hid hbb
      have HHt := Lib.hid htk
      have HHs := Lib.hid hst
      have HHx := Lib.hid hxl
      have HHk := Lib.hid hkk
      have HHN := Lib.hid hNN
      clear htk hst hxl hbb hcells f2 q5 hkk hNN
      go_upto_block 2 with (first
        | (go_at_call 19; refine (specWide_any kk hkkn _).mono ?_; rintro e w' ⟨rfl, rfl⟩)
        | fail)
      generalize hW0 : wr.alloc (.cells #[.int .i64 kk, .int .u64 0, .slice none 0 0] DaT) = W0 at *
      have HW0 := Lib.hid hW0
      clear hW0
      go_cut [11] from 12 to 137 (fun s11 wx => SCut w.heap.size W0 wr.heap.size kk N m s11 wx)
      case first =>
        have hW0z := Lib.hid hzQ
        have q0 := hQ.cell 0
        have hBW : BB W0 w.heap.size (.slice ba m.length bc) m := Sl.below HB.out hbn (by omega)
        have hST := fun (o : Option (Option (List UInt8))) (z : Int) h wx hc => SPost.stop (o := o) (z := z) (N := N) (wx := wx) HHt.out HHs.out HHx.out h hbel hbn hc hLs hFs hxs
        have f1W : W0.cell? ⟨b, off + k * 3 + 1, none⟩ = some (.int .u64 N) := (hbn.cell (p := ⟨b, off + k * 3 + 1, none⟩) (by show b < _; omega)).trans f1
        clear hLs hFs hxs f0 f1 hzQ
        by_cases h5 : kk ≤ 5
        · have j12 : ((kk : Int) == 12) = false := by simp; omega
          have j6 : ((kk : Int) == 6) = false := by simp; omega
          have j7 : ((kk : Int) == 7) = false := by simp; omega
          have j8 : ((kk : Int) == 8) = false := by simp; omega
          have j9 : ((kk : Int) == 9) = false := by simp; omega
          have j10 : ((kk : Int) == 10) = false := by simp; omega
          have j11 : ((kk : Int) == 11) = false := by simp; omega
          have hw8 := wd_le kk
          by_cases hs : wd kk ≤ m.length
          · have hone := Lib.hid (one_fix (N := N) h5 hs)
            generalize hsz : wd kk = sz at *
            have hsz2 := Lib.hid hsz
            clear hsz
            have n1 : ¬ (m.length : Int) < (sz : Int) := by omega
            have n2 : (sz : Int) ≤ (bc : Int) := by omega
            have hBg := (big_any (.slice ba sz bc) (m.take sz) W0 (Sl.mono (BB.head hBW sz hs) (by rw [hW0z.out]; omega) (Nat.le_refl _)) (by rw [List.length_take]; omega))
            have n3 : (0 : Int) ≤ (sz : Int) := by omega
            go_wp2_with fail
            refine hBg.mono ?_
            clear hBg
            rintro e w' ⟨rfl, rfl⟩
            have z1 := hQ.free 1
            have q1 := hQ.cell 1
            generalize (Lib.beNat (m.take sz) : Nat) = X at *
            go_wp2_with fail
            go_meet
            exact SCut.intro sz _ [] none 0 0 (hQ.set 1 _) (BB.nil _ _) hone.out hs (chg_set _ _ _ _)
          · have hone := Lib.hid (one_fix0 (N := N) h5 hs)
            generalize hsz : wd kk = sz at *
            have hsz2 := Lib.hid hsz
            clear hsz
            have n1 : (m.length : Int) < (sz : Int) := by omega
            go_wp2_with fail
            go_ret3
            exact hST _ _ (.inr ⟨hone.out, rfl, rfl⟩) _ (Chg.refl _ _)
        · have hBy : Bytes W0 (.slice ba m.length bc) m := Sl.mono hBW (by rw [hW0z.out]; omega) (Nat.le_refl _)
          have hVar := specVar_any _ m W0 hBy hml
          have hm0 : (0 : Int) ≤ (m.length : Int) := by omega
          have z1 := hQ.free 1
          have z2 := hQ.free 2
          have q1 := hQ.cell 1
          have q2 := hQ.cell 2
          by_cases h12 : kk = 12
          · subst h12
            clear hVar h5
            have hmin : min (N : Int) 1099511627776 = (N : Int) := by omega
            have hw1 : IntKind.i64.wrap (N : Int) = (N : Int) := by simp [IntKind.wrap, IntKind.bits, IntKind.signed]; omega
            have hN0 : (0 : Int) ≤ (N : Int) := by omega
            have hm0 : ¬ (m.length : Int) < 0 := by omega
            have hc12 : Chg (fun q => q = wr.heap.size) W0 (W0.drew.setCell ⟨wr.heap.size, 1, none⟩ (.int .u64 N)) := (Chg.refl (fun q => q = wr.heap.size) W0).drew.setCell ⟨wr.heap.size, 1, none⟩ rfl _
            by_cases hs : N ≤ m.length
            · have hone : Hid (sOne 12 N m = some (some (((N : Int), []), m.drop N))) := Lib.hid (by rw [one_skip, if_pos hs])
              have n1 : ¬ (m.length : Int) < (N : Int) := by omega
              go_upto_region 13 with fail
              go_region_with fail
              all_goals go_wp2_with fail
              all_goals go_meet
              all_goals exact SCut.intro N _ [] none 0 0 (hQ.drew.set 1 _) (BB.nil _ _) hone.out hs hc12
            · have hone : Hid (sOne 12 N m = some none) := Lib.hid (by rw [one_skip, if_neg hs])
              have n1 : (m.length : Int) < (N : Int) := by omega
              go_upto_region 13 with fail
              go_region_with fail
              all_goals go_wp2_with fail
              all_goals go_ret3
              all_goals exact hST _ _ (.inr ⟨hone.out, rfl, rfl⟩) _ hc12
          cases huk : uOk m
          · skip
            · have hone := Lib.hid (one_var0 (N := N) (show 6 ≤ kk by omega) (by omega) huk)
              have hk6 : kk = 6 ∨ kk = 7 ∨ kk = 8 ∨ kk = 9 ∨ kk = 10 ∨ kk = 11 := by omega
              have hV : Calls Tryz.prog 20 #[.slice ba m.length bc] W0 (fun e w' => ∃ x u : Int, e = .returned (.tuple #[.int .u64 x, .int .i64 u]) ∧ W0 = w' ∧ u ≤ 0) := hVar.mono (fun e w' ⟨x, u, h1, h2, _, h3⟩ => ⟨x, u, h1, h2, h3 huk⟩)
              clear hVar huk h5
              rcases hk6 with rfl | rfl | rfl | rfl | rfl | rfl
              all_goals
                go_wp2_with fail
                refine hV.mono ?_
                clear hV
                rintro e w' ⟨x, u, rfl, rfl, hu⟩
                go_wp2_with fail
                go_ret3
                exact hST _ _ (.inr ⟨hone.out, rfl, rfl⟩) _ (Chg.refl _ _)
          · have hp := uvar_pos huk
            have hX := uOk_lt huk
            have hV : Calls Tryz.prog 20 #[.slice ba m.length bc] W0 (fun e w' => e = .returned (.tuple #[.int .u64 ((uvar (m.take 10)).1 : Nat), .int .i64 ((uvar (m.take 10)).2 : Nat)]) ∧ W0 = w') := hVar.mono (fun e w' ⟨x, u, h1, h2, h3, _⟩ => ⟨by rw [h1, (h3 huk).1, (h3 huk).2], h2⟩)
            have hO1 := fun h h' => one_var (N := N) (k := kk) h h' huk
            have hO2 := one_zag (N := N) huk
            have hO3 := fun h => one_str (N := N) (k := kk) h huk
            clear hVar
            generalize (uvar (m.take 10)).1 = X at *
            generalize (uvar (m.take 10)).2 = u at *
            have hu1 : ¬ (u : Int) ≤ 0 := by omega
            have hu2 : u ≤ m.length := hp.2.1
            have hx1 : (0 : Int) ≤ (X : Int) := by omega
            clear hp huk
            by_cases h8 : kk ≤ 8
            · have hone := Lib.hid (hO1 (by omega) h8)
              clear hO1 hO2 hO3
              have hk6 : kk = 6 ∨ kk = 7 ∨ kk = 8 := by omega
              rcases hk6 with rfl | rfl | rfl
              all_goals
                go_wp2_with fail
                refine hV.mono ?_
                clear hV
                rintro e w' ⟨rfl, rfl⟩
                have Q2 := hQ.set 1 (.int .u64 X)
                have r0 := Q2.cell 0
                go_wp2_with fail
                go_meet
                exact SCut.intro u _ [] none 0 0 Q2 (BB.nil _ _) hone.out hu2 (chg_set _ _ _ _)
            · by_cases h9 : kk = 9
              · subst h9
                have hone := Lib.hid hO2
                have hZ := fun w => specZag_any X hX w
                clear hO1 hO2 hO3
                generalize IntKind.u64.wrap (zagI X) = Z at *
                go_wp2_with fail
                refine hV.mono ?_
                clear hV
                rintro e w' ⟨rfl, rfl⟩
                have Q2 := hQ.set 1 (.int .u64 X)
                have r0 := Q2.cell 0
                have r1 := Q2.cell 1
                have rz := Q2.free 1
                go_wp2_with fail
                refine (hZ _).mono ?_
                clear hZ
                rintro e w' ⟨rfl, rfl⟩
                have Q3 := Q2.set 1 (.int .u64 Z)
                have s0 := Q3.cell 0
                go_wp2_with fail
                go_meet
                exact SCut.intro u _ [] none 0 0 Q3 (BB.nil _ _) hone.out hu2 ((chg_set _ _ _ _).setCell ⟨wr.heap.size, 1, none⟩ rfl _)
              · have hone := hO3 (by omega)
                clear hO1 hO2 hO3
                have hdl : (m.drop u).length = m.length - u := List.length_drop
                have hk6 : kk = 10 ∨ kk = 11 := by omega
                by_cases hg : 2147483648 ≤ X
                · have hone := Lib.hid (by rw [hone, if_pos hg] : sOne kk N m = none)
                  have n1 : (2147483648 : Int) ≤ (X : Int) := by omega
                  rcases hk6 with rfl | rfl
                  all_goals
                    go_wp2_with fail
                    refine hV.mono ?_
                    clear hV
                    rintro e w' ⟨rfl, rfl⟩
                    have Q2 := hQ.set 1 (.int .u64 X)
                    have r0 := Q2.cell 0
                    go_wp2_with fail
                    go_ret3
                    exact hST _ _ (.inl ⟨hone.out, rfl, rfl⟩) _ (chg_set _ _ _ _)
                · have n1 : ¬ (2147483648 : Int) ≤ (X : Int) := by omega
                  have hwU : IntKind.u64.wrap ((m.length : Int) - (u : Int)) = (m.length : Int) - (u : Int) := by simp [IntKind.wrap, IntKind.bits, IntKind.signed]; omega
                  have hwX : IntKind.i64.wrap (X : Int) = (X : Int) := by simp [IntKind.wrap, IntKind.bits, IntKind.signed]; omega
                  have n6 : IntKind.i64.wrap ((u : Int) + (X : Int)) = (u : Int) + (X : Int) := by simp [IntKind.wrap, IntKind.bits, IntKind.signed]; omega
                  have n3 : (u : Int) ≤ (u : Int) + (X : Int) := by omega
                  have n5 : (0 : Int) ≤ (u : Int) := by omega
                  have n7 : (u : Int) ≤ (m.length : Int) := by omega
                  have n8 : (m.length : Int) ≤ 2147483647 := by omega
                  have HG := Lib.hid hg
                  have HU := Lib.hid hu2
                  have HD := Lib.hid hdl
                  have HX := Lib.hid hX
                  by_cases hs : X ≤ m.length - u
                  · have hone := Lib.hid (by rw [hone, if_neg hg, if_pos (by rw [hdl]; exact hs), List.drop_drop] : sOne kk N m = some (some ((0, (m.drop u).take X), m.drop (u + X))))
                    have n2 : ¬ (m.length : Int) - (u : Int) < (X : Int) := by omega
                    have n4 : (u : Int) + (X : Int) ≤ (bc : Int) := by omega
                    have hPc := Lib.hid (BB.piece hBW u X (by omega))
                    have hle := Lib.hid (show u + X ≤ m.length by omega)
                    rcases hk6 with rfl | rfl
                    all_goals
                      go_wp2_with fail
                      refine hV.mono ?_
                      clear hV
                      rintro e w' ⟨rfl, rfl⟩
                      have Q2 := hQ.set 1 (.int .u64 X)
                      have r0 := Q2.cell 0
                      have r1 := Q2.cell 1
                      have r2 := Q2.cell 2
                      have rz1 := Q2.free 1
                      have rz2 := Q2.free 2
                      clear hdl hg hX hu2 hs hST
                      generalize hXi : (X : Int) = Xi at *
                      generalize hui : (u : Int) = ui at *
                      have HXi := Lib.hid hXi
                      have Hui := Lib.hid hui
                      clear hXi hui
                      go_wp2_with fail
                      go_region_with fail
                      all_goals go_wp2_with fail
                      · rw [← h]
                        go_meet
                        have eX := HXi.out
                        have eu := Hui.out
                        subst eX
                        subst eu
                        have hbu : bc = u := by omega
                        have e2 : ((u : Int) + (X : Int)).toNat - bc = X := by omega
                        have e3 : ((u : Int) + (X : Int)) = ((u + X : Nat) : Int) := by omega
                        have hP := hPc.out
                        rw [if_pos hbu, show bc - u = 0 by omega] at hP
                        rw [e2, e3]
                        have hc := (((chg_set W0 wr.heap.size 1 (.int .u64 (X : Int))).setCell ⟨wr.heap.size, 1, none⟩ rfl (.int .u64 0)).setCell ⟨wr.heap.size, 2, none⟩ rfl (.slice ba X 0)).drew
                        exact SCut.intro (u + X) 0 _ ba X 0 ((Q2.set 1 _).set 2 _).drew (hP.chg hc (by rw [hW0z.out]; omega) (fun q hq h => by omega)) hone.out hle.out hc
                      · go_meet
                        have eX := HXi.out
                        have eu := Hui.out
                        subst eX
                        subst eu
                        have hbu : ¬ bc = u := by omega
                        have e2 : ((u : Int) + (X : Int)).toNat - (u : Int).toNat = X := by omega
                        have e3 : ((u : Int) + (X : Int)) = ((u + X : Nat) : Int) := by omega
                        have e4 : (u : Int).toNat = u := by omega
                        have hP := hPc.out
                        rw [if_neg hbu] at hP
                        rw [e2, e3, e4]
                        have hc := (((chg_set W0 wr.heap.size 1 (.int .u64 (X : Int))).setCell ⟨wr.heap.size, 1, none⟩ rfl (.int .u64 0)).setCell ⟨wr.heap.size, 2, none⟩ rfl (.slice (Option.map (fun x => x.add u) ba) X (bc - u))).drew
                        exact SCut.intro (u + X) 0 _ _ X (bc - u) ((Q2.set 1 _).set 2 _).drew (hP.chg hc (by rw [hW0z.out]; omega) (fun q hq h => by omega)) hone.out hle.out hc
                  · have hone := Lib.hid (by rw [hone, if_neg hg, if_neg (by rw [hdl]; exact hs)] : sOne kk N m = some none)
                    have n2 : (m.length : Int) - (u : Int) < (X : Int) := by omega
                    rcases hk6 with rfl | rfl
                    all_goals
                      go_wp2_with fail
                      refine hV.mono ?_
                      clear hV
                      rintro e w' ⟨rfl, rfl⟩
                      have Q2 := hQ.set 1 (.int .u64 X)
                      have r0 := Q2.cell 0
                      have hSTx := hST (some none) k (.inr ⟨hone.out, rfl, rfl⟩) (W0.setCell ⟨wr.heap.size, 1, none⟩ (.int .u64 X)) (chg_set _ _ _ _)
                      clear hdl hg hX hu2 hs hST
                      generalize hXi : (X : Int) = Xi at *
                      generalize hui : (u : Int) = ui at *
                      have HXi := Lib.hid hXi
                      have Hui := Lib.hid hui
                      clear hXi hui
                      go_wp2_with fail
                      go_ret3
                      exact hSTx
      case rest =>
        obtain ⟨sz, n, s, sa2, sj, sc2, rfl, hY, hsB, hone, hsz, hcx⟩ := hcut
        have hW0z : W0.heap.size = wr.heap.size + 1 := hzQ
        have hbw : Below wr.heap.size wr wc := ⟨hcx.os.trans hbn.os, hcx.tape.trans hbn.tape, hcx.output.trans hbn.output, by have := hcx.size; omega, fun q hq => by rw [hcx.block q (by omega) (by omega), hbn.block q hq]⟩
        have hbelc := bnx hbel hbw
        have hBc : BB wc w.heap.size (.slice ba m.length bc) m := Sl.below HB.out hbw (by omega)
        have hL5 := own_chg hLs (Chg.ofBelow hbw) (fun g _ h2 h => by have := (hLs.lt g h2).2; omega)
        have hF5 := own_chg hFs (Chg.ofBelow hbw) (fun g _ h2 h => by have := (hFs.lt g h2).2; omega)
        have hx5 := hxs.low (hbw.mono (by omega))
        have hLsl : Ls.length = k * 3 := hLs.1
        have hFsl : Fs.length = k := by have := hFs.1; omega
        have hLlt : ∀ g, (Value.slice za k zc).ownBlock = some g → g < wr.heap.size := fun g h => (hLs.lt g h).2
        have hwcz := hbw.size
        clear hLs hFs hxs hbw hcx hQ hbn f0 f1
        have n1 : (0 : Int) ≤ (sz : Int) := by omega
        have n2 : (sz : Int) ≤ (m.length : Int) := by omega
        have n3 : (sz : Int) ≤ (bc : Int) := by omega
        have n4 : (m.length : Int) ≤ (bc : Int) := by omega
        go_upto_region 35 with fail
        have hcB := Lib.hid (BB.rest hBc sz hsz)
        have hml2 : m.length - sz = (m.drop sz).length := by simp
        have hm2l : (m.drop sz).length ≤ 2147483647 := by rw [← hml2]; omega
        rw [hml2] at hcB ⊢
        generalize (if bc = sz then ba else Option.map (fun x => x.add sz) ba) = na at *
        generalize bc - sz = nc at *
        clear hml2
        generalize m.drop sz = m2 at *
        have hrun := Lib.hid (run_next HHt.out HHs.out hone)
        have hbz := hbelc.size
        have y0 := hY.cell 0
        have y1 := hY.cell 1
        have y2 := hY.cell 2
        have hR1 : ∀ q, (Value.slice za k zc).ownBlock = some q → w.heap.size ≤ q ∧ ∃ cs, wc.heap[q]? = some (.cells cs DaT (0, 0)) := fun q hq => ⟨(hL5.lt q hq).1, own_type hL5 hq⟩
        have hR2 : ∀ q, (Value.slice fa k fc).ownBlock = some q → w.heap.size ≤ q ∧ ∃ cs, wc.heap[q]? = some (.cells cs 3 (0, 0)) := fun q hq => ⟨(hF5.lt q hq).1, own_type hF5 hq⟩
        have hO1 := own_alloc hL5 (.cells #[.int .i64 kk, .int .u64 n, .slice sa2 sj sc2] DaT)
        have hnew1 : (wc.alloc (.cells #[.int .i64 kk, .int .u64 n, .slice sa2 sj sc2] DaT)).heap[wc.heap.size]? = some (.cells #[.int .i64 kk, .int .u64 n, .slice sa2 sj sc2] DaT (0, 0)) := heap_alloc_new wc _
        have hone3 : ∀ u ∈ [Value.int .i64 kk, .int .u64 n, .slice sa2 sj sc2], u.oneCell' = true := by intro u hu; simp at hu; rcases hu with rfl | rfl | rfl <;> rfl
        have hkb : k < 2147483648 := by omega
        have hbs1 : w.heap.size ≤ (wc.alloc (.cells #[.int .i64 kk, .int .u64 n, .slice sa2 sj sc2] DaT)).heap.size := by simp; omega
        have H6 : ∀ w6, (wc.alloc (.cells #[.int .i64 kk, .int .u64 n, .slice sa2 sj sc2] DaT)).grownBy w6 (Value.slice za k zc).ownBlock → Chg (fun q => (Value.slice za k zc).ownBlock = some q) wc w6 := fun w6 hg => ((Chg.refl _ wc).alloc _).grown hg (fun q hq => hq)
        have hFF : ∀ w6, Chg (fun q => (Value.slice za k zc).ownBlock = some q) wc w6 → w6.ownsRow w.heap.size 3 1 (.slice fa k fc) k Fs := fun w6 hc => own_chg hF5 hc (fun g _ h2 h1 => by
          obtain ⟨_, cs, g1⟩ := hR1 g h1
          obtain ⟨_, cs', g2⟩ := hR2 g h2
          rw [g1] at g2
          injection g2 with g2
          injection g2 with _ g2 _
          exact absurd g2 (by decide))
        have hBS : ∀ w6, Chg (fun q => (Value.slice za k zc).ownBlock = some q) wc w6 → w.heap.size ≤ (w6.alloc (.cells #[.int .i64 (m2.length : Int)] 3)).heap.size := fun w6 hc => by
          have := hc.size
          simp
          omega
        have H7 : ∀ w6 w7, Chg (fun q => (Value.slice za k zc).ownBlock = some q) wc w6 → (w6.alloc (.cells #[.int .i64 (m2.length : Int)] 3)).grownBy w7 (Value.slice fa k fc).ownBlock → Chg (fun q => (Value.slice za k zc).ownBlock = some q ∨ (Value.slice fa k fc).ownBlock = some q) wc w7 := fun w6 w7 hc hg => ((hc.mono (fun q hq => .inl hq)).alloc _).grown hg (fun q hq => .inr hq)
        clear n1 n2 n3 n4
        go_wp2_with (first
          | (at_builtin; refine list_app 23 DaT i0 _ 3 40 rfl (.tmp 129) (.tmp 131) rfl rfl Tryz.underlying23 hi hz0 hz1 hz2 rfl (by decide) (by decide) w.heap.size (.slice za k zc) k Ls rfl hO1 wc.heap.size rfl [.int .i64 kk, .int .u64 n, .slice sa2 sj sc2] rfl hnew1 hone3 hkb hbs1 ?_; intro v1 w6 ho1 hg1; obtain ⟨a1, c1, rfl⟩ := own_form ho1; have hc6 := H6 w6 hg1; have hF6 := hFF w6 hc6; have hO2 := own_alloc hF6 (.cells #[.int .i64 (m2.length : Int)] 3); have hbs2 := hBS w6 hc6)
          | (at_builtin; refine list_app 29 3 j0 _ 1 8 rfl (.tmp 133) (.tmp 136) rfl rfl Tryz.underlying29 hj hy0 hy1 hy2 rfl (by decide) (by decide) w.heap.size (.slice fa k fc) k Fs rfl hO2 w6.heap.size rfl [.int .i64 (m2.length : Int)] rfl (heap_alloc_new w6 _) (one1 _ _) hkb hbs2 ?_; intro v2 w7 ho2 hg2; obtain ⟨a3, c3, rfl⟩ := own_form ho2; have hc7 := H7 w6 w7 hc6 hg2)
          | fail)
        have hb7 : Below w.heap.size wc w7 := hc7.below _ hbz (fun q hq h => by
          rcases h with h | h
          · have := (hR1 q h).1; omega
          · have := (hR2 q h).1; omega)
        have L7 := own_keep hO2 hg2 (own_alloc ho1 (.cells #[.int .i64 (m2.length : Int)] 3)) (by decide)
        have x7 := (hx5.low hb7).snoc (n := n) (s := s) (r := m2.length) hlt HHx.out HHk.out (Sl.below hsB hb7 (Nat.le_refl _))
        have B7 : BB w7 w.heap.size (.slice na m2.length nc) m2 := Sl.below hcB.out hb7 (Nat.le_refl _)
        go_roundw
        case rel =>
          refine ⟨k + 1, m2, _, _, by omega, by go_num, by rw [hrun.out], by rw [hrun.out, List.length_append, HHx.out]; rfl, hm2l, B7, hbelc.trans hb7, L7, ho2, ?_⟩
          rw [hrun.out]
          exact x7
        case measure => simp [intOf]; omega
    · obtain rfl : k = K.length := by omega
      rw [List.take_length] at hst hxl hxs
      have H := Lib.hid (SPost.full hst hxl hbel hLs hFs hxs)
      clear hst hxl hxs hLs hFs
      have hq1 : ¬ (K.length : Int) < (K.length : Int) := by omega
      go_wp2_with fail
      go_ret3
      exact H.out
end Go.Proofs.YtkbkggamfkadnaaGreatDoor
