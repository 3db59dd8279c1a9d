/-
  FnDecode: the walk of the law.
-/
import Derived.Test.YtkbkggamfkadnaaGreatDoorDzA
import Derived.Test.YtkbkggamfkadnaaGreatDoorDy6
import Derived.Test.YtkbkggamfkadnaaGreatDoorAwake
namespace Go.Proofs.YtkbkggamfkadnaaGreatDoor
set_option linter.unusedSimpArgs false
set_option linter.unusedVariables false
open Go.RowKit

/-- a kind that there is, a number that is not too great -/
def GoodD (x : Int × Int × Value) : Prop := 0 ≤ x.1 ∧ x.1 ≤ 12 ∧ x.2.1 ≤ 2147483648
def PreGood (K : List (Int × Int × Value)) (k : Nat) : Prop := ∀ j (h : j < K.length), j < k → GoodD K[j]
theorem PreGood.next {K : List (Int × Int × Value)} {k : Nat} (h : PreGood K k) (hk : k < K.length) (hg : GoodD K[k]) : PreGood K (k + 1) := fun j hj hjk => by
  by_cases e : j = k
  · subst e; exact hg
  · exact h j hj (by omega)
theorem PreGood.kinds {W : World} {K : List (Int × Int × Value)} (h : PreGood K K.length) (hd : ∀ x ∈ K, DatIn W x) : KindsOk K := fun x hx => by
  obtain ⟨i, hi, rfl⟩ := List.mem_iff_getElem.1 hx
  obtain ⟨g1, g2, g3⟩ := h i hi hi
  obtain ⟨_, ⟨d1, _⟩, s, hs⟩ := hd _ hx
  obtain ⟨a, c, e, _, _⟩ := hs.form
  exact ⟨g1, g2, d1, by omega, a, _, c, e⟩
theorem KindsOk.le {K : List (Int × Int × Value)} (h : KindsOk K) : ∀ x ∈ K.map kn, x.1 ≤ 12 := fun x hx => by
  obtain ⟨y, hy, rfl⟩ := List.mem_map.1 hx
  obtain ⟨h1, h2, _⟩ := h y hy
  show y.1.toNat ≤ 12
  omega
def Pre7 (K : List (Int × Int × Value)) (xs : List ((Int × List UInt8) × Nat)) (k : Nat) : Prop := ∀ j (h : j < xs.length), j < k → (K.getD j (0, 0, undef)).1 = 7 → xs[j].1.1 < 4294967296
theorem Pre7.next {K : List (Int × Int × Value)} {xs : List ((Int × List UInt8) × Nat)} {k : Nat} (h : Pre7 K xs k) (hk : k < xs.length) (hg : (K.getD k (0, 0, undef)).1 = 7 → xs[k].1.1 < 4294967296) : Pre7 K xs (k + 1) := fun j hj hjk => by
  by_cases e : j = k
  · subst e; exact hg
  · exact h j hj (by omega)
theorem Pre7.small {K : List (Int × Int × Value)} {xs : List ((Int × List UInt8) × Nat)} (h : Pre7 K xs xs.length) (hk : KindsOk K) : Small7 (K.map kn) xs := fun i hi h7 => by
  refine h i hi hi ?_
  by_cases hiK : i < K.length
  · obtain ⟨g1, _⟩ := hk K[i] (List.getElem_mem _)
    simp [List.getD_eq_getElem?_getD, hiK, kn] at h7 ⊢
    omega
  · simp [List.getD_eq_getElem?_getD, hiK] at h7

set_option maxRecDepth 100000 in
set_option maxHeartbeats 8000000 in
theorem wDecode_main (v : Value) (l : List UInt8) (kv : Value) (K : List (Int × Int × Value)) (w : World) (h : Bytes w v l) (hl : l.length ≤ 2000) (hK : Dats w w.heap.size kv K) (hKl : K.length ≤ 30) (hd : ∀ x ∈ K, DatIn w x) (hg : ErrV w) :
    Calls Tryz.prog 3 #[v, kv] w fun e w' => e = .returned (.bool true) ∧ Below w.heap.size w w' := by
  have hKs : ∀ x ∈ K, ∃ a n c, x.2.2 = .slice a n c := fun x hx => let ⟨_, _, s, hs⟩ := hd x hx; let ⟨a, c, e, _⟩ := hs.form; ⟨a, _, c, e⟩
  have hFits := fits16_any kv K w hK hKs
  have HK := Lib.hid hK
  have HV := Lib.hid h
  have HD := Lib.hid hd
  have HG := Lib.hid hg
  obtain ⟨ka, kc, rfl, k1, k2⟩ := hK.form
  obtain ⟨ao, cap, rfl, h1, h2⟩ := h.form
  have n0 : ¬ (2147483647 : Int) < (l.length : Int) := by omega
  have n1 : ¬ (2000 : Int) < (l.length : Int) := by omega
  have n2 : ¬ (30 : Int) < (K.length : Int) := by omega
  clear hK h hd hg hKs
  go_enter Tryz.func3, Tryz.ntmps3
  go_wp2_with fail
  refine hFits.mono ?_
  clear hFits
  rintro e w1 ⟨b0, rfl, hb1, _⟩
  cases b0
  · go_wp2_with fail
    go_ret
    exact ⟨rfl, hb1⟩
  have hsz1 := hb1.size
  go_wp2_with fail
  go_loop [5] (fun i => ∃ k : Nat, k ≤ K.length ∧ i = .int .i64 k ∧ Hid (PreGood K k)) (fun i => K.length - (intOf i).toNat)
  case atStart => exact ⟨0, Nat.zero_le _, rfl, Lib.hid (fun j _ h => absurd h (by omega))⟩
  case round =>
    obtain ⟨k, hkl, rfl, hpre⟩ := hrel
    by_cases hlt : k < K.length
    · obtain ⟨b, off, rfl, hbB, _, hcc⟩ := Dats.at_ HK.out (by omega)
      obtain ⟨f0, f1, f2⟩ := hcc k hlt
      have g0 := (hb1.cell (p := ⟨b, off + k * 3, none⟩) hbB).trans f0
      have g1 := (hb1.cell (p := ⟨b, off + k * 3 + 1, none⟩) hbB).trans f1
      clear hcc f0 f1 f2
      have i1 : (k : Int) < (K.length : Int) := by omega
      by_cases hgd : GoodD K[k]
      · have HN := Lib.hid (hpre.out.next hlt hgd)
        obtain ⟨q1, q2, q3⟩ := hgd
        generalize K[k].1 = kk at *
        generalize K[k].2.1 = NN at *
        go_wp2_with fail
        go_round
        case rel => exact ⟨k + 1, by omega, by go_num, HN⟩
        case measure => simp [intOf]; omega
      · unfold GoodD at hgd
        generalize K[k].1 = kk at *
        generalize K[k].2.1 = NN at *
        by_cases q1 : kk < 0
        · clear hgd
          go_wp2_with fail
          refine (awake_any _).mono ?_
          rintro e w4 ⟨rfl, hb4⟩
          go_wp2_with fail
          go_ret
          exact ⟨rfl, bnx hb1 hb4⟩
        by_cases q2 : 12 < kk
        · clear hgd
          go_wp2_with fail
          refine (awake_any _).mono ?_
          rintro e w4 ⟨rfl, hb4⟩
          go_wp2_with fail
          go_ret
          exact ⟨rfl, bnx hb1 hb4⟩
        have q3 : 2147483648 < NN := by omega
        clear hgd
        go_wp2_with fail
        refine (awake_any _).mono ?_
        rintro e w4 ⟨rfl, hb4⟩
        go_wp2_with fail
        go_ret
        exact ⟨rfl, bnx hb1 hb4⟩
    · obtain rfl : k = K.length := by omega
      have hko := hpre.out.kinds HD.out
      have HKO := Lib.hid hko
      have hsp := specDecode_any _ l _ K w1 (HV.out.up hb1) (by omega) (Sl.up HK.out hb1) (by omega) hko
      clear hko
      have i1 : ¬ (K.length : Int) < (K.length : Int) := by omega
      go_wp2_with fail
      refine hsp.mono ?_
      clear hsp i1
      intro e W2 hsp
      obtain ⟨ov, lv, he, hW⟩ := hsp.want
      clear hsp
      cases hr2 : (runS (K.map kn) l).2 with
      | none =>
        obtain rfl : e = .returned (.tuple #[ov, lv, .int .i64 (-2)]) := by rw [he, hr2]; rfl
        have hb2 := bnx hb1 hW.bel
        clear he hW hr2
        go_wp2_with fail
        refine (awake_any _).mono ?_
        rintro e w4 ⟨rfl, hb4⟩
        go_wp2_with fail
        go_ret
        exact ⟨rfl, bnx hb2 hb4⟩
      | some o =>
        rw [hr2] at he
        have HR := Lib.hid hr2
        have HA := Lib.hid (atOf_ne o (runS (K.map kn) l).1.length)
        obtain ⟨xs, hxs⟩ : ∃ xs, (runS (K.map kn) l).1 = xs := ⟨_, rfl⟩
        rw [hxs] at he hW HA
        have hxl : xs.length ≤ 30 := by have := runS_le (K.map kn) l; rw [hxs, List.length_map] at this; omega
        have HXS := Lib.hid hxs
        clear hxs hr2
        obtain ⟨A, hA⟩ : ∃ A, atOf (some o) xs.length = A := ⟨_, rfl⟩
        have HAt := Lib.hid hA
        have a1 : (A == -2) = false := by rw [← hA]; exact HA.out
        rw [hA] at he
        clear hA HA
        subst he
        have hb2 := bnx hb1 hW.bel
        obtain ⟨oa, oc, rfl, hO⟩ := hW.o
        obtain ⟨la, lc, rfl, hL⟩ := hW.l
        have hz2 := hb2.size
        go_wp2_with fail
        go_loop [9] (fun i => ∃ k : Nat, k ≤ xs.length ∧ i = .int .i64 k ∧ Hid (Pre7 K xs k)) (fun i => xs.length - (intOf i).toNat)
        case atStart => exact ⟨0, Nat.zero_le _, rfl, Lib.hid (fun j _ h => absurd h (by omega))⟩
        case round =>
          obtain ⟨k, hkl, rfl, hpre7⟩ := hrel
          by_cases hlt : k < xs.length
          · obtain ⟨b, off, rfl, hbB, hcc⟩ := hO (by omega)
            obtain ⟨sa, sc, f0, f1, _, _⟩ := hcc k hlt
            have HN := fun q => Lib.hid (hpre7.out.next hlt q)
            clear hcc hO hL
            have i1 : (k : Int) < (xs.length : Int) := by omega
            generalize xs[k].1.1 = NN at *
            generalize (K.getD k (0, 0, undef)).1 = kk at *
            by_cases h7 : kk = 7
            · subst h7
              by_cases hN : (4294967296 : Int) ≤ NN
              · clear HN
                go_wp2_with fail
                refine (awake_any _).mono ?_
                rintro e w4 ⟨rfl, hb4⟩
                go_wp2_with fail
                go_ret
                exact ⟨rfl, bnx hb2 hb4⟩
              · have HN := HN (fun _ => by omega)
                go_wp2_with fail
                go_round
                case rel => exact ⟨k + 1, by omega, by go_num, HN⟩
                case measure => simp [intOf]; omega
            · have h7' : (kk == 7) = false := by simpa using h7
              have HN := HN (fun e => absurd e h7)
              clear h7
              go_wp2_with fail
              go_round
              case rel => exact ⟨k + 1, by omega, by go_num, HN⟩
              case measure => simp [intOf]; omega
          · obtain rfl : k = xs.length := by omega
            have h7 := hpre7.out.small HKO.out
            have hle := HKO.out.le
            have hnn : (runS (K.map kn) l).2 ≠ none := by rw [HR.out]; intro h; cases h
            have h7' : Small7 (K.map kn) (runS (K.map kn) l).1 := by rw [HXS.out]; exact h7
            have HRun := Lib.hid (run_eq _ _ hle h7' o HR.out)
            have hdec := decode_any _ l _ K W2 (HV.out.up hb2) (by omega) (Sl.up HK.out hb2) (by omega) HKO.out (run_fine _ _ hle h7' hnn) (HG.out.low hb2)
            clear h7 h7' hle hnn
            have i1 : ¬ (xs.length : Int) < (xs.length : Int) := by omega
            go_wp2_with fail
            refine hdec.mono ?_
            clear hdec i1
            rintro e W3 ⟨gv, fv, wr, D, P, rfl, hI⟩
            obtain ⟨hGt, hwr⟩ := hI.got HRun.out
            rw [HXS.out] at hGt hwr
            rw [HAt.out] at hwr
            subst hwr
            clear hI
            obtain ⟨ga, gc, rfl, hGo⟩ := hGt.o
            obtain ⟨ea, ec, rfl, hGl⟩ := hGt.l
            have hle := hGt.le
            have hb23 := hGt.bel
            have hb3 := bnx hb2 hb23
            have d1 : decide (K.length < xs.length) = false := decide_eq_false (by omega)
            go_wp2_with fail
            go_loopw [13] (fun i wr => ∃ k : Nat, k ≤ xs.length ∧ i = .int .i64 k ∧ Below W3.heap.size W3 wr) (fun i _ => xs.length - (intOf i).toNat)
            case atStart => exact ⟨0, Nat.zero_le _, rfl, Below.refl _ _⟩
            case round =>
              obtain ⟨k, hkl, rfl, hbr⟩ := hrel
              by_cases hlt : k < xs.length
              · obtain ⟨b, off, rfl, hbB, hcc⟩ := hO (by omega)
                obtain ⟨b2, off2, rfl, hbB2, hcc2⟩ := hL (by omega)
                obtain ⟨b3, off3, rfl, hbB3, hcc3⟩ := hGo (by omega)
                obtain ⟨b4, off4, rfl, hbB4, hcc4⟩ := hGl (by omega)
                have hb2r : Below W2.heap.size W2 wr := bnx hb23 hbr
                obtain ⟨sa, sc, f0, f1, f2, f3⟩ := (hcc.below hb2r hbB) k hlt
                have f4 := (hcc2.below hb2r hbB2) k hlt
                obtain ⟨ta, tc, g0, g1, g2, g3⟩ := (hcc3.below hbr hbB3) k hlt
                have g4 := (hcc4.below hbr hbB4) k hlt
                obtain ⟨s, hs⟩ : ∃ s, strOfNums (xs[k].1.2.map fun b => (b.toNat : Int)) = s := ⟨_, rfl⟩
                have cv1 := conv_allN wr _ _ f3 s hs
                have cv2 := conv_allN wr _ _ g3 s hs
                clear hcc hcc2 hcc3 hcc4 hO hL hGo hGl hs f3 g3 hb2r
                have i1 : (k : Int) < (xs.length : Int) := by omega
                have i2 : (k : Int) < (K.length : Int) := by omega
                generalize xs[k].1.2.length = ln at *
                generalize xs[k].1.1 = NN at *
                generalize xs[k].2 = lf at *
                generalize (K.getD k (0, 0, undef)).1 = kk at *
                by_cases h12 : kk = 12
                · subst h12
                  go_wp2_with fail
                  go_quiet (fail)
                  go_wp2_with fail
                  go_roundw
                  case rel => exact ⟨k + 1, by omega, by go_num, below_drewN hbr nq⟩
                  case measure => simp [intOf]; omega
                · have h12' : (kk != 12) = true := by simpa using h12
                  clear h12
                  go_wp2_with fail
                  go_quiet (fail)
                  go_wp2_with fail
                  go_roundw
                  case rel => exact ⟨k + 1, by omega, by go_num, below_drewN hbr nq⟩
                  case measure => simp [intOf]; omega
              · obtain rfl : k = xs.length := by omega
                have i1 : ¬ (xs.length : Int) < (xs.length : Int) := by omega
                go_wp2_with fail
                refine (awake_any _).mono ?_
                rintro e w4 ⟨rfl, hb4⟩
                go_wp2_with fail
                go_ret
                exact ⟨rfl, bnx (bnx hb3 hbr) hb4⟩

set_option maxRecDepth 100000 in
set_option maxHeartbeats 4000000 in
theorem wDecode (v : Value) (l : List UInt8) (kv : Value) (K : List (Int × Int × Value)) (w : World) (h : Bytes w v l) (hK : Dats w w.heap.size kv K ∧ ∀ x ∈ K, DatIn w x) (hg : ErrV w) :
    Calls Tryz.prog 3 #[v, kv] w fun e w' => e = .returned (.bool true) ∧ Below w.heap.size w w' := by
  obtain ⟨hK, hd⟩ := hK
  by_cases c1 : 2147483647 < l.length
  · obtain ⟨ao, cap, rfl, h1, h2⟩ := h.form
    have c1' : (2147483647 : Int) < (l.length : Int) := by omega
    go_enter Tryz.func3, Tryz.ntmps3
    go_wp2_with fail
    go_ret
    exact ⟨rfl, Below.refl _ _⟩
  by_cases c2 : l.length ≤ 2000 ∧ K.length ≤ 30
  · exact wDecode_main v l kv K w h c2.1 hK c2.2 hd hg
  have hKs : ∀ x ∈ K, ∃ a n c, x.2.2 = .slice a n c := fun x hx => let ⟨_, _, s, hs⟩ := hd x hx; let ⟨a, c, e, _⟩ := hs.form; ⟨a, _, c, e⟩
  have hFits := fits16_any kv K w hK hKs
  obtain ⟨ka, kc, rfl, k1, k2⟩ := hK.form
  obtain ⟨ao, cap, rfl, h1, h2⟩ := h.form
  have n0 : ¬ (2147483647 : Int) < (l.length : Int) := by omega
  clear hK h hd hKs
  by_cases c3 : 2000 < l.length
  · have c3' : (2000 : Int) < (l.length : Int) := by omega
    go_enter Tryz.func3, Tryz.ntmps3
    go_wp2_with fail
    refine hFits.mono ?_
    rintro e w1 ⟨b0, rfl, hb1, _⟩
    cases b0
    · go_wp2_with fail
      go_ret
      exact ⟨rfl, hb1⟩
    · go_wp2_with fail
      refine (awake_any _).mono ?_
      rintro e w4 ⟨rfl, hb4⟩
      go_wp2_with fail
      go_ret
      exact ⟨rfl, bnx hb1 hb4⟩
  · have c3' : ¬ (2000 : Int) < (l.length : Int) := by omega
    have c4' : (30 : Int) < (K.length : Int) := by omega
    go_enter Tryz.func3, Tryz.ntmps3
    go_wp2_with fail
    refine hFits.mono ?_
    rintro e w1 ⟨b0, rfl, hb1, _⟩
    cases b0
    · go_wp2_with fail
      go_ret
      exact ⟨rfl, hb1⟩
    · go_wp2_with fail
      refine (awake_any _).mono ?_
      rintro e w4 ⟨rfl, hb4⟩
      go_wp2_with fail
      go_ret
      exact ⟨rfl, bnx hb1 hb4⟩
end Go.Proofs.YtkbkggamfkadnaaGreatDoor
