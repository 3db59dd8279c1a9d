/-
  The reference's Cover and Covers.
-/
import Derived.Test.YtfllcbcokncgpaaGreatDoorIv2
import Derived.Test.YtfllcbcokncgpaaGreatDoorSpecIv
import Derived.StillTailTactics
namespace Go.Proofs.YtfllcbcokncgpaaGreatDoor
set_option linter.unusedSimpArgs false
set_option linter.unusedVariables false
open Go.RowKit

theorem run_im_append (w : World) (base : Nat) (v : Value) (n : Nat) (l : List (Int × Int)) (hown : w.ownsRow base 47 2 v n (flatI l)) (p o m c : Nat) (news : List (Int × Int)) (hl : news.length = m) (hc : ∀ j u, (flatI news)[j]? = some u → w.cell? ⟨p, o + j, none⟩ = some u) (hn : n + m ≤ 2147483648) (hbase : base ≤ w.heap.size) :
    ∃ v' w', (Builtin.append_ #[22, 22] 22 #[v, .slice (some ⟨p, o, none⟩) m c]).run Tryz.prog w = .ok v' w' ∧ w'.ownsRow base 47 2 v' (n + m) (flatI (l ++ news)) ∧ w.grownBy w' v.ownBlock := by
  obtain ⟨i0, hi, hz0, hz1, hz2⟩ := info_parts infoImIv
  obtain ⟨v', w', h1, h2, h3, _⟩ := run_append_own (P := Tryz.prog) w base 22 22 47 i0 _ 2 16 Tryz.underlying22 hi hz0 hz1 hz2 rfl (by decide) v n _ hown ⟨p, o, none⟩ m c (flatI news) (by rw [length_flat, hl]) (fun j u hj => by rw [add_cell]; exact hc j u hj) (one_flatI news) (by unfold maxLen; omega) (by omega) hbase
  rw [← flat_append] at h2
  exact ⟨v', w', h1, h2, h3⟩

theorem src_iv : ∀ {l : List (Int × Int)} {wr : World} {g off : Nat}, (∀ i (hi : i < l.length), wr.cell? ⟨g, off + i * 2, none⟩ = some (.int .i64 l[i].1) ∧ wr.cell? ⟨g, off + i * 2 + 1, none⟩ = some (.int .i64 l[i].2)) → ∀ k j u, (flatI (l.drop k))[j]? = some u → wr.cell? ⟨g, off + k * 2 + j, none⟩ = some u := by
  intro l
  induction l with
  | nil => intro wr g off _ k j u hj; simp [flat] at hj
  | cons x l ih =>
    intro wr g off h k j u hj
    have h0 := h 0 (by simp)
    have hs : ∀ i (hi : i < l.length), wr.cell? ⟨g, (off + 2) + i * 2, none⟩ = some (.int .i64 l[i].1) ∧ wr.cell? ⟨g, (off + 2) + i * 2 + 1, none⟩ = some (.int .i64 l[i].2) := fun i hi => by
      have := h (i + 1) (by simpa using hi)
      rw [show off + (i + 1) * 2 = off + 2 + i * 2 by omega] at this
      simpa using this
    cases k with
    | zero =>
      match j, hj with
      | 0, hj =>
        have e : u = .int .i64 x.1 := by simpa [flat, eq_comm] using hj
        subst e
        simpa using h0.1
      | 1, hj =>
        have e : u = .int .i64 x.2 := by simpa [flat, eq_comm] using hj
        subst e
        simpa using h0.2
      | j + 2, hj =>
        have := ih hs 0 j u (by simpa [flat] using hj)
        rw [show off + 0 * 2 + (j + 2) = off + 2 + 0 * 2 + j by omega]
        exact this
    | succ k =>
      have := ih hs k j u (by simpa using hj)
      rw [show off + (k + 1) * 2 + j = off + 2 + k * 2 + j by omega]
      exact this

set_option maxRecDepth 100000 in
set_option maxHeartbeats 8000000 in
theorem cover_any (v : Value) (l : List (Int × Int)) (a b : Int) (w : World) (h : Pairs w w.heap.size .i64 .i64 v l) (hl : l.length ≤ 1000000) (hR : RealL l) (hab : a ≤ b) (ha0 : -9223372036854775808 ≤ a) (hb0 : b < 9223372036854775807) :
    Calls Tryz.prog 39 #[v, .agg #[.int .i64 a, .int .i64 b]] w fun e w' => ∃ x, e = .returned x ∧ w'.ownsRow w.heap.size 47 2 x (coverL l a b).length (flatI (coverL l a b)) ∧ Below w.heap.size w w' := by
  obtain ⟨i0, hi, hz0, hz1, hz2⟩ := info_parts infoImIv
  obtain ⟨ao, cap, rfl, h1, h2⟩ := h.form
  have hch0 := (Chg.refl (fun q => w.heap.size ≤ q) w).alloc (.cells #[.int .i64 a, .int .i64 b] 47)
  have hB0 := Blk.new w [.int .i64 a, .int .i64 b] 47
  have hz0' : (w.alloc (.cells #[.int .i64 a, .int .i64 b] 47)).heap.size = w.heap.size + 1 := by simp
  go_enter Tryz.func39, Tryz.ntmps39
  go_wp2_with fail
  generalize hbb : w.heap.size = b0 at *
  generalize w.alloc _ = W at *
  go_loopw [5, 6] (fun ov i wr => ∃ (k : Nat) (o : List (Int × Int)) (a' b' : Int), k ≤ l.length ∧ i = .int .i64 k ∧ o.length ≤ k ∧ Hid (coverL l a b = o ++ coverL (l.drop k) a' b') ∧ wr.ownsRow (b0 + 1) 47 2 ov o.length (flatI o) ∧ Blk wr b0 [.int .i64 a', .int .i64 b'] 47 ∧ Chg (fun q => b0 ≤ q) w wr ∧ a' ≤ b' ∧ -9223372036854775808 ≤ a' ∧ b' < 9223372036854775807) (fun _ i _ => l.length - (intOf i).toNat)
  case atStart => exact ⟨0, [], a, b, Nat.zero_le _, rfl, Nat.le_refl _, Lib.hid (by simp), World.ownsRow_nil _ _ _ _, hB0, hch0, hab, ha0, hb0⟩
  case round => as_aux_lemma =>
    obtain ⟨k, o, a', b', hk, rfl, hok, hcov, hown, hbl, hch, hab', ha', hb'⟩ := hrel
    obtain ⟨za, zc, rfl⟩ := own_form hown
    have hbs := hbl.lt
    have k0 := hbl.cell 0
    have k1 := hbl.cell 1
    by_cases hlt : k < l.length
    · obtain ⟨g, off, rfl, hgB, hBw, hcc⟩ := h.at_ (by omega)
      have hbel := hch.below b0 (by omega) (fun q hq => by omega)
      have c2 := (hbel.cell (p := ⟨g, off + k * 2, none⟩) hgB).trans (hcc k hlt).1
      have c3 := (hbel.cell (p := ⟨g, off + k * 2 + 1, none⟩) hgB).trans (hcc k hlt).2
      have hsrc : ∀ j u, (flatI (l.drop k))[j]? = some u → wr.cell? ⟨g, off + k * 2 + j, none⟩ = some u := fun j u hj => src_iv (fun i hi => ⟨(hbel.cell (p := ⟨g, off + i * 2, none⟩) hgB).trans (hcc i hi).1, (hbel.cell (p := ⟨g, off + i * 2 + 1, none⟩) hgB).trans (hcc i hi).2⟩) k j u hj
      clear hcc
      have i0' : (0 : Int) ≤ (k : Int) := by omega
      have i1 : (k : Int) < (l.length : Int) := by omega
      obtain ⟨r1, r2, r3⟩ := hR _ (List.getElem_mem hlt)
      have HD : Hid (l.drop k = l[k] :: l.drop (k + 1)) := Lib.hid (List.drop_eq_getElem_cons hlt)
      generalize l[k] = x at *
      obtain ⟨x0, x1⟩ := x
      simp only at r1 r2 r3
      have hnb := Blk.new wr [.int .i64 x0, .int .i64 x1] 47
      have d0 := hnb.cell 0
      have d1 := hnb.cell 1
      have hbl1 := hbl.alloc (.cells #[.int .i64 x0, .int .i64 x1] 47)
      have m0 := hbl1.cell 0
      have m1 := hbl1.cell 1
      have hch1 := hch.alloc (.cells #[.int .i64 x0, .int .i64 x1] 47)
      have hw1 : IntKind.i64.wrap (b' + 1) = b' + 1 := IntWalk.i64_in _ (by omega)
      have hzw := hch.size
      by_cases qA : x1 < a' - 1
      · have q1 : x1 < a' := by omega
        have q2 : (a' == -9223372036854775808) = false := by rw [beq_eq_false_iff_ne]; omega
        have q3 : ¬ b' < x0 := by omega
        have q1d : decide (x1 < a') = true := decide_eq_true q1
        have q3d : decide (b' < x0) = false := decide_eq_false q3
        have qAd : decide (x1 < a' - 1) = true := decide_eq_true qA
        have hw0 : IntKind.i64.wrap (a' - 1) = a' - 1 := IntWalk.i64_in _ (by omega)
        have HC := Lib.hid (show coverL l a b = (o ++ [(x0, x1)]) ++ coverL (l.drop (k + 1)) a' b' by rw [hcov.out, HD.out, coverL, if_pos qA]; simp)
        have hO := own_alloc (own_alloc hown (.cells #[.int .i64 x0, .int .i64 x1] 47)) (.cells #[.int .i64 x0, .int .i64 x1] 47)
        have hnew : ((wr.alloc (.cells #[.int .i64 x0, .int .i64 x1] 47)).alloc (.cells #[.int .i64 x0, .int .i64 x1] 47)).heap[wr.heap.size + 1]? = some (.cells #[.int .i64 x0, .int .i64 x1] 47) := by
          have := heap_alloc_new (wr.alloc (.cells #[.int .i64 x0, .int .i64 x1] 47)) (.cells #[.int .i64 x0, .int .i64 x1] 47)
          simpa using this
        clear hsrc
        go_wp2_with (first | (at_builtin; refine list_app 22 47 i0 _ 2 16 rfl (.tmp 52) (.tmp 54) rfl rfl Tryz.underlying22 hi hz0 hz1 hz2 rfl (by decide) (by decide) (b0 + 1) (.slice za o.length zc) o.length (flatI o) rfl hO (wr.heap.size + 1) rfl [.int .i64 x0, .int .i64 x1] rfl hnew (one2 _ _ _ _) (by omega) (by simp; omega) ?_; intro v' w1 ho hg) | fail)
        have hlo := (hO.lt · ·)
        have hch2 := (hch1.alloc (.cells #[.int .i64 x0, .int .i64 x1] 47)).grown hg (fun q hq => by have := (hO.lt q hq).1; omega)
        have hbl2 := (hbl1.alloc (.cells #[.int .i64 x0, .int .i64 x1] 47)).chg (Chg.ofGrown hg) (fun hq => by have := hO.lt b0 hq.symm; omega)
        go_roundw
        case rel => exact ⟨k + 1, o ++ [(x0, x1)], a', b', by omega, by simp, by simp; omega, HC, by rw [List.length_append, flatI, flat_append]; exact ho, hbl2, hch2, hab', ha', hb'⟩
        case measure => simp [intOf]; omega
      · by_cases qB : b' + 1 < x0
        · have q1 : ¬ x1 < a' := by omega
          have q3 : b' < x0 := by omega
          have q1d : decide (x1 < a') = false := decide_eq_false q1
          have q3d : decide (b' < x0) = true := decide_eq_true q3
          have qBd : decide (b' + 1 < x0) = true := decide_eq_true qB
          have HC := Lib.hid (show coverL l a b = (o ++ [(a', b')]) ++ l.drop k by rw [hcov.out, HD.out, coverL, if_neg qA, if_pos qB]; simp)
          obtain ⟨y, w1, hr1, ho1, hg1⟩ := run_im_append (((wr.alloc (.cells #[.int .i64 x0, .int .i64 x1] 47)).alloc (.cells #[.int .i64 a', .int .i64 b'] 47)).drew) (b0 + 1) _ o.length o (own_drew (own_alloc (own_alloc hown _) _)) (wr.heap.size + 1) 0 1 1 [(a', b')] rfl (by
            have := one_iv (wr.alloc (.cells #[.int .i64 x0, .int .i64 x1] 47)) a' b' 47
            simpa using this) (by omega) (by simp; omega)
          have hlm : (l.drop k).length = l.length - k := List.length_drop
          have hcs : Chg (fun q => b0 ≤ q) wr w1 := ((((Chg.refl (fun q => b0 ≤ q) wr).alloc _).alloc _).drew).grown hg1 (fun q hq => by have := (hown.lt q hq).1; omega)
          obtain ⟨y2, w2, hr2, ho2, hg2⟩ := run_im_append w1 (b0 + 1) y (o.length + 1) (o ++ [(a', b')]) ho1 g (off + k * 2) (l.length - k) (cap - k) (l.drop k) hlm (fun j u hj => cell_chg hcs (hsrc j u hj) (show ¬ b0 ≤ g by omega)) (by omega) (by have := hcs.size; omega)
          have hcs2 : Chg (fun q => b0 ≤ q) w w2 := (hch.trans hcs).grown hg2 (fun q hq => by have := (ho1.lt q hq).1; omega)
          have n3 : ¬ cap = k := by omega
          have n4 : ¬ (k : Int) = (cap : Int) := by omega
          have n1 : (k : Int) ≤ (cap : Int) := by omega
          have n2 : (k : Int) ≤ (l.length : Int) := by omega
          have HR1 := Lib.hid hr1
          have HR2 := Lib.hid hr2
          have T0 : (wr.alloc (.cells #[.int .i64 x0, .int .i64 x1] 47)).drew.cell? ⟨b0, 0, none⟩ = some (.int .i64 a') ∧ (wr.alloc (.cells #[.int .i64 x0, .int .i64 x1] 47)).drew.cell? ⟨b0, 1, none⟩ = some (.int .i64 b') := ⟨m0, m1⟩
          have hbl2 := (hbl1.alloc (.cells #[.int .i64 a', .int .i64 b'] 47)).drew
          have T1 : (((wr.alloc (.cells #[.int .i64 x0, .int .i64 x1] 47)).alloc (.cells #[.int .i64 a', .int .i64 b'] 47)).drew).cell? ⟨b0, 0, none⟩ = some (.int .i64 a') ∧ (((wr.alloc (.cells #[.int .i64 x0, .int .i64 x1] 47)).alloc (.cells #[.int .i64 a', .int .i64 b'] 47)).drew).cell? ⟨b0, 1, none⟩ = some (.int .i64 b') := ⟨hbl2.cell 0, hbl2.cell 1⟩
          have hbl3 := hbl2.chg (Chg.ofGrown hg1) (fun hq => by have := hown.lt b0 hq.symm; omega)
          have T2 : w1.cell? ⟨b0, 0, none⟩ = some (.int .i64 a') ∧ w1.cell? ⟨b0, 1, none⟩ = some (.int .i64 b') := ⟨hbl3.cell 0, hbl3.cell 1⟩
          have hbl4 := hbl3.chg (Chg.ofGrown hg2) (fun hq => by have := ho1.lt b0 hq.symm; omega)
          have T3 : w2.cell? ⟨b0, 0, none⟩ = some (.int .i64 a') ∧ w2.cell? ⟨b0, 1, none⟩ = some (.int .i64 b') := ⟨hbl4.cell 0, hbl4.cell 1⟩
          clear hr1 hr2 hsrc hlm hg1 hg2 ho1 hcs hbl2 hbl3 hbl4
          go_wp2_with fail
          go_region_held3 (fun w' => w'.cell? ⟨b0, 0, none⟩ = some (.int .i64 a') ∧ w'.cell? ⟨b0, 1, none⟩ = some (.int .i64 b')) (first | (with_reducible assumption) | fail)
            (first
              | (refine step_run 22 22 rfl (.tmp 57) (.tmp 59) rfl rfl rfl rfl HR1.out ?_)
              | (refine step_run 22 22 rfl (.tmp 60) (.tmp 63) rfl rfl rfl rfl HR2.out ?_)
              | fail)
          go_wp2_with fail
          go_ret
          subst hbb
          refine ⟨_, rfl, own_base (base := w.heap.size + 1) ?_ (by omega), hcs2.below _ (Nat.le_refl _) (fun q hq => by omega)⟩
          rw [HC.out, List.length_append, List.length_append, List.length_drop]
          exact ho2
        · by_cases q1 : x1 < a'
          · have q2 : (a' == -9223372036854775808) = false := by rw [beq_eq_false_iff_ne]; omega
            have hw0 : IntKind.i64.wrap (a' - 1) = a' - 1 := IntWalk.i64_in _ (by omega)
            have qAd : decide (x1 < a' - 1) = false := decide_eq_false qA
            have q1d : decide (x1 < a') = true := decide_eq_true q1
            have q3 : ¬ b' < x0 := by omega
            have q3d : decide (b' < x0) = false := decide_eq_false q3
            have hg0 : coverL l a b = o ++ coverL (l.drop (k + 1)) (min a' x0) (max b' x1) := by rw [hcov.out, HD.out, coverL, if_neg qA, if_neg qB]
            have HC := Lib.hid hg0
            have HM0 := Lib.hid (show min a' x0 ≤ max b' x1 by omega)
            have HM1 := Lib.hid (show -9223372036854775808 ≤ min a' x0 by omega)
            have HM2 := Lib.hid (show max b' x1 < 9223372036854775807 by omega)
            clear hg0 hsrc
            have hown1 := own_alloc hown (.cells #[.int .i64 x0, .int .i64 x1] 47)
            have hne : wr.heap.size ≠ b0 := by omega
            go_wp2_with fail
            generalize hgx : wr.heap.size = gx at *
            generalize wr.alloc _ = W1 at *
            have HS0 := hbl1.set 0 (.int .i64 (min a' x0))
            have HS1 := HS0.set 1 (.int .i64 (max b' x1))
            have z0 : W1.drew.frozen? ⟨b0, 0, none⟩ = false := hbl1.free 0
            have z1 : (W1.setCell ⟨b0, 0, none⟩ (.int .i64 (min a' x0))).drew.frozen? ⟨b0, 1, none⟩ = false := HS0.free 1
            have hx1 := hnb.chg (Chg.setCell (S := fun q => q = b0) (Chg.refl (fun q => q = b0) W1) ⟨b0, 0, none⟩ rfl (.int .i64 (min a' x0))) (show ¬ gx = b0 from hne)
            have hx2 := hx1.chg (Chg.setCell (S := fun q => q = b0) (Chg.refl (fun q => q = b0) (W1.setCell ⟨b0, 0, none⟩ (.int .i64 (min a' x0)))) ⟨b0, 1, none⟩ rfl (.int .i64 (max b' x1))) (show ¬ gx = b0 from hne)
            have U0 : W1.drew.cell? ⟨gx, 0, none⟩ = some (.int .i64 x0) ∧ W1.drew.cell? ⟨gx, 1, none⟩ = some (.int .i64 x1) := ⟨d0, d1⟩
            have U1 : (W1.setCell ⟨b0, 0, none⟩ (.int .i64 (min a' x0))).drew.cell? ⟨gx, 0, none⟩ = some (.int .i64 x0) ∧ (W1.setCell ⟨b0, 0, none⟩ (.int .i64 (min a' x0))).drew.cell? ⟨gx, 1, none⟩ = some (.int .i64 x1) := ⟨hx1.cell 0, hx1.cell 1⟩
            have U2 : ((W1.setCell ⟨b0, 0, none⟩ (.int .i64 (min a' x0))).setCell ⟨b0, 1, none⟩ (.int .i64 (max b' x1))).drew.cell? ⟨gx, 0, none⟩ = some (.int .i64 x0) ∧ ((W1.setCell ⟨b0, 0, none⟩ (.int .i64 (min a' x0))).setCell ⟨b0, 1, none⟩ (.int .i64 (max b' x1))).drew.cell? ⟨gx, 1, none⟩ = some (.int .i64 x1) := ⟨hx2.cell 0, hx2.cell 1⟩
            have hch2 := ((hch1.setCell ⟨b0, 0, none⟩ (Nat.le_refl _) (.int .i64 (min a' x0))).setCell ⟨b0, 1, none⟩ (Nat.le_refl _) (.int .i64 (max b' x1))).drew
            have hown2 := own_drew (own_chg hown1 (Chg.setCell (S := fun q => q = b0) (Chg.setCell (S := fun q => q = b0) (Chg.refl (fun q => q = b0) W1) ⟨b0, 0, none⟩ rfl (.int .i64 (min a' x0))) ⟨b0, 1, none⟩ rfl (.int .i64 (max b' x1))) (fun q hq _ => by omega))
            clear hx1 hx2 HS0
            refine wp_region_held_drew (S := fun w' => w'.cell? ⟨gx, 0, none⟩ = some (.int .i64 x0) ∧ w'.cell? ⟨gx, 1, none⟩ = some (.int .i64 x1)) (by kernel_rfl) U0 (fun hHeld => ?_)
            refine wpAnyH_take (i := 0) (oi := ?oi1) (v := ?v1) ?hi1 (by kernel_rfl) (by kernel_rfl) (by kernel_rfl) ?hQ1 ?hy1 (by assumption) ?rest1
            case hi1 => (simp only [List.getElem?_toArray, List.getElem?_cons_succ, List.getElem?_cons_zero]; rfl)
            case hQ1 => exact fun _ _ _ h => h
            case hy1 => (refine Or.inl ⟨by rfl, ?_⟩; intro w hSw; (try dsimp only at hSw); go_simp; first | done | with_reducible rfl)
            try simp only [Act.put, List.setIfInBounds_toArray, List.set_cons_zero, List.set_cons_succ]
            refine wpAnyH_take (i := 2) (oi := ?oi2) (v := ?v2) ?hi2 (by kernel_rfl) (by kernel_rfl) (by kernel_rfl) ?hQ2 ?hy2 (by assumption) ?rest2
            case hi2 => (simp only [List.getElem?_toArray, List.getElem?_cons_succ, List.getElem?_cons_zero]; rfl)
            case hQ2 => exact fun _ _ _ h => h
            case hy2 => (refine Or.inl ⟨by rfl, ?_⟩; intro w hSw; (try dsimp only at hSw); go_simp; first | done | with_reducible rfl)
            try simp only [Act.put, List.setIfInBounds_toArray, List.set_cons_zero, List.set_cons_succ]
            refine wpAnyH_take (i := 3) (oi := ?oi3) (v := ?v3) ?hi3 (by kernel_rfl) (by kernel_rfl) (by kernel_rfl) ?hQ3 ?hy3 (by assumption) ?rest3
            case hi3 => (simp only [List.getElem?_toArray, List.getElem?_cons_succ, List.getElem?_cons_zero]; rfl)
            case hQ3 => exact fun _ _ _ h => h
            case hy3 => (refine Or.inl ⟨by rfl, ?_⟩; intro w hSw; (try dsimp only at hSw); go_simp; first | done | with_reducible rfl)
            try simp only [Act.put, List.setIfInBounds_toArray, List.set_cons_zero, List.set_cons_succ]
            refine wpAnyH_take (i := 5) (oi := ?oi4) (v := ?v4) ?hi4 (by kernel_rfl) (by kernel_rfl) (by kernel_rfl) ?hQ4 ?hy4 (by assumption) ?rest4
            case hi4 => (simp only [List.getElem?_toArray, List.getElem?_cons_succ, List.getElem?_cons_zero]; rfl)
            case hQ4 => exact fun _ _ _ h => h
            case hy4 => (refine Or.inl ⟨by rfl, ?_⟩; intro w hSw; (try dsimp only at hSw); go_simp; first | done | with_reducible rfl)
            try simp only [Act.put, List.setIfInBounds_toArray, List.set_cons_zero, List.set_cons_succ]
            refine wpAnyH_take (i := 7) (oi := ?oi5) (v := ?v5) ?hi5 (by kernel_rfl) (by kernel_rfl) (by kernel_rfl) ?hQ5 ?hy5 (by assumption) ?rest5
            case hi5 => (simp only [List.getElem?_toArray, List.getElem?_cons_succ, List.getElem?_cons_zero]; rfl)
            case hQ5 => exact fun _ _ _ h => h
            case hy5 => (refine Or.inl ⟨by rfl, ?_⟩; intro w hSw; (try dsimp only at hSw); go_simp; first | done | with_reducible rfl)
            try simp only [Act.put, List.setIfInBounds_toArray, List.set_cons_zero, List.set_cons_succ]
            refine wpAnyH_take (i := 8) (oi := ?oi6) (v := ?v6) ?hi6 (by kernel_rfl) (by kernel_rfl) (by kernel_rfl) ?hQ6 ?hy6 (by assumption) ?rest6
            case hi6 => (simp only [List.getElem?_toArray, List.getElem?_cons_succ, List.getElem?_cons_zero]; rfl)
            case hQ6 => exact fun _ _ _ h => h
            case hy6 => (refine Or.inl ⟨by rfl, ?_⟩; intro w hSw; (try dsimp only at hSw); go_simp; first | done | with_reducible rfl)
            try simp only [Act.put, List.setIfInBounds_toArray, List.set_cons_zero, List.set_cons_succ]
            refine wpAnyH_ready (rs := [1, 6]) (by kernel_rfl) (by simp) ?_
            refine AllReadyH.cons (o := ?oi7) ?hi7 (fun K hK => ?rest7) (AllReadyH.cons (o := ?oj7) ?hj7 (fun K hK => ?resu7) AllReadyH.nil)
            case hi7 => (simp only [List.getElem?_toArray, List.getElem?_cons_succ, List.getElem?_cons_zero]; rfl)
            case hj7 => (simp only [List.getElem?_toArray, List.getElem?_cons_succ, List.getElem?_cons_zero]; rfl)
            case rest7 =>
              rw [if_pos (by rfl)]
              go_simp
              refine hK.out _ _ U0 (fun hHeld => ?_)
              clear hK K
              try simp only [Act.put, List.setIfInBounds_toArray, List.set_cons_zero, List.set_cons_succ]
              refine wpAnyH_take (i := 4) (oi := ?oi8) (v := ?v8) ?hi8 (by kernel_rfl) (by kernel_rfl) (by kernel_rfl) ?hQ8 ?hy8 (by assumption) ?rest8
              case hi8 => (simp only [List.getElem?_toArray, List.getElem?_cons_succ, List.getElem?_cons_zero]; rfl)
              case hQ8 => exact fun _ _ _ h => h
              case hy8 => (refine Or.inl ⟨by rfl, ?_⟩; intro w hSw; (try dsimp only at hSw); go_simp; first | done | with_reducible rfl)
              try simp only [Act.put, List.setIfInBounds_toArray, List.set_cons_zero, List.set_cons_succ]
              refine wpAnyH_ready (rs := [6]) (by kernel_rfl) (by simp) ?_
              refine AllReadyH.cons (o := ?oi9) ?hi9 (fun K hK => ?rest9) AllReadyH.nil
              case hi9 => (simp only [List.getElem?_toArray, List.getElem?_cons_succ, List.getElem?_cons_zero]; rfl)
              rw [if_pos (by rfl)]
              go_simp
              refine hK.out _ _ U0 (fun hHeld => ?_)
              clear hK K
              try simp only [Act.put, List.setIfInBounds_toArray, List.set_cons_zero, List.set_cons_succ]
              refine wpAnyH_take (i := 9) (oi := ?oi10) (v := ?v10) ?hi10 (by kernel_rfl) (by kernel_rfl) (by kernel_rfl) ?hQ10 ?hy10 (by assumption) ?rest10
              case hi10 => (simp only [List.getElem?_toArray, List.getElem?_cons_succ, List.getElem?_cons_zero]; rfl)
              case hQ10 => exact fun _ _ _ h => h
              case hy10 => (refine Or.inl ⟨by rfl, ?_⟩; intro w hSw; (try dsimp only at hSw); go_simp; first | done | with_reducible rfl)
              try simp only [Act.put, List.setIfInBounds_toArray, List.set_cons_zero, List.set_cons_succ]
              refine wpAnyH_take (i := 10) (oi := ?oi11) (v := ?v11) ?hi11 (by kernel_rfl) (by kernel_rfl) (by kernel_rfl) ?hQ11 ?hy11 (by assumption) ?rest11
              case hi11 => (simp only [List.getElem?_toArray, List.getElem?_cons_succ, List.getElem?_cons_zero]; rfl)
              case hQ11 => exact fun _ _ _ h => h
              case hy11 => (refine Or.inl ⟨by rfl, ?_⟩; intro w hSw; (try dsimp only at hSw); go_simp; first | done | with_reducible rfl)
              try simp only [Act.put, List.setIfInBounds_toArray, List.set_cons_zero, List.set_cons_succ]
              refine wpAnyH_ready (rs := [11]) (by kernel_rfl) (by simp) ?_
              refine AllReadyH.cons (o := ?oi12) ?hi12 (fun K hK => ?rest12) AllReadyH.nil
              case hi12 => (simp only [List.getElem?_toArray, List.getElem?_cons_succ, List.getElem?_cons_zero]; rfl)
              rw [if_pos (by rfl)]
              go_simp
              refine hK.out _ _ U1 (fun hHeld => ?_)
              clear hK K
              try simp only [Act.put, List.setIfInBounds_toArray, List.set_cons_zero, List.set_cons_succ]
              refine wpAnyH_take (i := 12) (oi := ?oi13) (v := ?v13) ?hi13 (by kernel_rfl) (by kernel_rfl) (by kernel_rfl) ?hQ13 ?hy13 (by assumption) ?rest13
              case hi13 => (simp only [List.getElem?_toArray, List.getElem?_cons_succ, List.getElem?_cons_zero]; rfl)
              case hQ13 => exact fun _ _ _ h => h
              case hy13 => (refine Or.inl ⟨by rfl, ?_⟩; intro w hSw; (try dsimp only at hSw); go_simp; first | done | with_reducible rfl)
              try simp only [Act.put, List.setIfInBounds_toArray, List.set_cons_zero, List.set_cons_succ]
              refine wpAnyH_ready (rs := [13]) (by kernel_rfl) (by simp) ?_
              refine AllReadyH.cons (o := ?oi14) ?hi14 (fun K hK => ?rest14) AllReadyH.nil
              case hi14 => (simp only [List.getElem?_toArray, List.getElem?_cons_succ, List.getElem?_cons_zero]; rfl)
              rw [if_pos (by rfl)]
              go_simp
              refine hK.out _ _ U2 (fun hHeld => ?_)
              clear hK K
              try simp only [Act.put, List.setIfInBounds_toArray, List.set_cons_zero, List.set_cons_succ]
              refine wpAnyH_done (by kernel_rfl) ?_ _
              go_wp2_with fail
              go_roundw
              case rel => exact ⟨k + 1, o, min a' x0, max b' x1, by omega, by simp, by omega, HC, hown2, HS1.drew, hch2, HM0.out, HM1.out, HM2.out⟩
              case measure => simp [intOf]; omega
            case resu7 =>
              rw [if_pos (by rfl)]
              go_simp
              refine hK.out _ _ U0 (fun hHeld => ?_)
              clear hK K
              try simp only [Act.put, List.setIfInBounds_toArray, List.set_cons_zero, List.set_cons_succ]
              refine wpAnyH_take (i := 9) (oi := ?oi15) (v := ?v15) ?hi15 (by kernel_rfl) (by kernel_rfl) (by kernel_rfl) ?hQ15 ?hy15 (by assumption) ?rest15
              case hi15 => (simp only [List.getElem?_toArray, List.getElem?_cons_succ, List.getElem?_cons_zero]; rfl)
              case hQ15 => exact fun _ _ _ h => h
              case hy15 => (refine Or.inl ⟨by rfl, ?_⟩; intro w hSw; (try dsimp only at hSw); go_simp; first | done | with_reducible rfl)
              try simp only [Act.put, List.setIfInBounds_toArray, List.set_cons_zero, List.set_cons_succ]
              refine wpAnyH_ready (rs := [1]) (by kernel_rfl) (by simp) ?_
              refine AllReadyH.cons (o := ?oi16) ?hi16 (fun K hK => ?rest16) AllReadyH.nil
              case hi16 => (simp only [List.getElem?_toArray, List.getElem?_cons_succ, List.getElem?_cons_zero]; rfl)
              rw [if_pos (by rfl)]
              go_simp
              refine hK.out _ _ U0 (fun hHeld => ?_)
              clear hK K
              try simp only [Act.put, List.setIfInBounds_toArray, List.set_cons_zero, List.set_cons_succ]
              refine wpAnyH_take (i := 4) (oi := ?oi17) (v := ?v17) ?hi17 (by kernel_rfl) (by kernel_rfl) (by kernel_rfl) ?hQ17 ?hy17 (by assumption) ?rest17
              case hi17 => (simp only [List.getElem?_toArray, List.getElem?_cons_succ, List.getElem?_cons_zero]; rfl)
              case hQ17 => exact fun _ _ _ h => h
              case hy17 => (refine Or.inl ⟨by rfl, ?_⟩; intro w hSw; (try dsimp only at hSw); go_simp; first | done | with_reducible rfl)
              try simp only [Act.put, List.setIfInBounds_toArray, List.set_cons_zero, List.set_cons_succ]
              refine wpAnyH_take (i := 10) (oi := ?oi18) (v := ?v18) ?hi18 (by kernel_rfl) (by kernel_rfl) (by kernel_rfl) ?hQ18 ?hy18 (by assumption) ?rest18
              case hi18 => (simp only [List.getElem?_toArray, List.getElem?_cons_succ, List.getElem?_cons_zero]; rfl)
              case hQ18 => exact fun _ _ _ h => h
              case hy18 => (refine Or.inl ⟨by rfl, ?_⟩; intro w hSw; (try dsimp only at hSw); go_simp; first | done | with_reducible rfl)
              try simp only [Act.put, List.setIfInBounds_toArray, List.set_cons_zero, List.set_cons_succ]
              refine wpAnyH_ready (rs := [11]) (by kernel_rfl) (by simp) ?_
              refine AllReadyH.cons (o := ?oi19) ?hi19 (fun K hK => ?rest19) AllReadyH.nil
              case hi19 => (simp only [List.getElem?_toArray, List.getElem?_cons_succ, List.getElem?_cons_zero]; rfl)
              rw [if_pos (by rfl)]
              go_simp
              refine hK.out _ _ U1 (fun hHeld => ?_)
              clear hK K
              try simp only [Act.put, List.setIfInBounds_toArray, List.set_cons_zero, List.set_cons_succ]
              refine wpAnyH_take (i := 12) (oi := ?oi20) (v := ?v20) ?hi20 (by kernel_rfl) (by kernel_rfl) (by kernel_rfl) ?hQ20 ?hy20 (by assumption) ?rest20
              case hi20 => (simp only [List.getElem?_toArray, List.getElem?_cons_succ, List.getElem?_cons_zero]; rfl)
              case hQ20 => exact fun _ _ _ h => h
              case hy20 => (refine Or.inl ⟨by rfl, ?_⟩; intro w hSw; (try dsimp only at hSw); go_simp; first | done | with_reducible rfl)
              try simp only [Act.put, List.setIfInBounds_toArray, List.set_cons_zero, List.set_cons_succ]
              refine wpAnyH_ready (rs := [13]) (by kernel_rfl) (by simp) ?_
              refine AllReadyH.cons (o := ?oi21) ?hi21 (fun K hK => ?rest21) AllReadyH.nil
              case hi21 => (simp only [List.getElem?_toArray, List.getElem?_cons_succ, List.getElem?_cons_zero]; rfl)
              rw [if_pos (by rfl)]
              go_simp
              refine hK.out _ _ U2 (fun hHeld => ?_)
              clear hK K
              try simp only [Act.put, List.setIfInBounds_toArray, List.set_cons_zero, List.set_cons_succ]
              refine wpAnyH_done (by kernel_rfl) ?_ _
              go_wp2_with fail
              go_roundw
              case rel => exact ⟨k + 1, o, min a' x0, max b' x1, by omega, by simp, by omega, HC, hown2, HS1.drew, hch2, HM0.out, HM1.out, HM2.out⟩
              case measure => simp [intOf]; omega
          · have q1d : decide (x1 < a') = false := decide_eq_false q1
            by_cases q3 : b' < x0
            · have q3d : decide (b' < x0) = true := decide_eq_true q3
              have qBd : decide (b' + 1 < x0) = false := decide_eq_false qB
              have hg0 : coverL l a b = o ++ coverL (l.drop (k + 1)) (min a' x0) (max b' x1) := by rw [hcov.out, HD.out, coverL, if_neg qA, if_neg qB]
              have HC := Lib.hid hg0
              have HM0 := Lib.hid (show min a' x0 ≤ max b' x1 by omega)
              have HM1 := Lib.hid (show -9223372036854775808 ≤ min a' x0 by omega)
              have HM2 := Lib.hid (show max b' x1 < 9223372036854775807 by omega)
              clear hg0 hsrc
              have hown1 := own_alloc hown (.cells #[.int .i64 x0, .int .i64 x1] 47)
              have hne : wr.heap.size ≠ b0 := by omega
              go_wp2_with fail
              generalize hgx : wr.heap.size = gx at *
              generalize wr.alloc _ = W1 at *
              have HS0 := hbl1.set 0 (.int .i64 (min a' x0))
              have HS1 := HS0.set 1 (.int .i64 (max b' x1))
              have z0 : W1.drew.frozen? ⟨b0, 0, none⟩ = false := hbl1.free 0
              have z1 : (W1.setCell ⟨b0, 0, none⟩ (.int .i64 (min a' x0))).drew.frozen? ⟨b0, 1, none⟩ = false := HS0.free 1
              have hx1 := hnb.chg (Chg.setCell (S := fun q => q = b0) (Chg.refl (fun q => q = b0) W1) ⟨b0, 0, none⟩ rfl (.int .i64 (min a' x0))) (show ¬ gx = b0 from hne)
              have hx2 := hx1.chg (Chg.setCell (S := fun q => q = b0) (Chg.refl (fun q => q = b0) (W1.setCell ⟨b0, 0, none⟩ (.int .i64 (min a' x0)))) ⟨b0, 1, none⟩ rfl (.int .i64 (max b' x1))) (show ¬ gx = b0 from hne)
              have U0 : W1.drew.cell? ⟨gx, 0, none⟩ = some (.int .i64 x0) ∧ W1.drew.cell? ⟨gx, 1, none⟩ = some (.int .i64 x1) := ⟨d0, d1⟩
              have U1 : (W1.setCell ⟨b0, 0, none⟩ (.int .i64 (min a' x0))).drew.cell? ⟨gx, 0, none⟩ = some (.int .i64 x0) ∧ (W1.setCell ⟨b0, 0, none⟩ (.int .i64 (min a' x0))).drew.cell? ⟨gx, 1, none⟩ = some (.int .i64 x1) := ⟨hx1.cell 0, hx1.cell 1⟩
              have U2 : ((W1.setCell ⟨b0, 0, none⟩ (.int .i64 (min a' x0))).setCell ⟨b0, 1, none⟩ (.int .i64 (max b' x1))).drew.cell? ⟨gx, 0, none⟩ = some (.int .i64 x0) ∧ ((W1.setCell ⟨b0, 0, none⟩ (.int .i64 (min a' x0))).setCell ⟨b0, 1, none⟩ (.int .i64 (max b' x1))).drew.cell? ⟨gx, 1, none⟩ = some (.int .i64 x1) := ⟨hx2.cell 0, hx2.cell 1⟩
              have hch2 := ((hch1.setCell ⟨b0, 0, none⟩ (Nat.le_refl _) (.int .i64 (min a' x0))).setCell ⟨b0, 1, none⟩ (Nat.le_refl _) (.int .i64 (max b' x1))).drew
              have hown2 := own_drew (own_chg hown1 (Chg.setCell (S := fun q => q = b0) (Chg.setCell (S := fun q => q = b0) (Chg.refl (fun q => q = b0) W1) ⟨b0, 0, none⟩ rfl (.int .i64 (min a' x0))) ⟨b0, 1, none⟩ rfl (.int .i64 (max b' x1))) (fun q hq _ => by omega))
              clear hx1 hx2 HS0
              refine wp_region_held_drew (S := fun w' => w'.cell? ⟨gx, 0, none⟩ = some (.int .i64 x0) ∧ w'.cell? ⟨gx, 1, none⟩ = some (.int .i64 x1)) (by kernel_rfl) U0 (fun hHeld => ?_)
              refine wpAnyH_take (i := 0) (oi := ?oi22) (v := ?v22) ?hi22 (by kernel_rfl) (by kernel_rfl) (by kernel_rfl) ?hQ22 ?hy22 (by assumption) ?rest22
              case hi22 => (simp only [List.getElem?_toArray, List.getElem?_cons_succ, List.getElem?_cons_zero]; rfl)
              case hQ22 => exact fun _ _ _ h => h
              case hy22 => (refine Or.inl ⟨by rfl, ?_⟩; intro w hSw; (try dsimp only at hSw); go_simp; first | done | with_reducible rfl)
              try simp only [Act.put, List.setIfInBounds_toArray, List.set_cons_zero, List.set_cons_succ]
              refine wpAnyH_take (i := 2) (oi := ?oi23) (v := ?v23) ?hi23 (by kernel_rfl) (by kernel_rfl) (by kernel_rfl) ?hQ23 ?hy23 (by assumption) ?rest23
              case hi23 => (simp only [List.getElem?_toArray, List.getElem?_cons_succ, List.getElem?_cons_zero]; rfl)
              case hQ23 => exact fun _ _ _ h => h
              case hy23 => (refine Or.inl ⟨by rfl, ?_⟩; intro w hSw; (try dsimp only at hSw); go_simp; first | done | with_reducible rfl)
              try simp only [Act.put, List.setIfInBounds_toArray, List.set_cons_zero, List.set_cons_succ]
              refine wpAnyH_take (i := 3) (oi := ?oi24) (v := ?v24) ?hi24 (by kernel_rfl) (by kernel_rfl) (by kernel_rfl) ?hQ24 ?hy24 (by assumption) ?rest24
              case hi24 => (simp only [List.getElem?_toArray, List.getElem?_cons_succ, List.getElem?_cons_zero]; rfl)
              case hQ24 => exact fun _ _ _ h => h
              case hy24 => (refine Or.inl ⟨by rfl, ?_⟩; intro w hSw; (try dsimp only at hSw); go_simp; first | done | with_reducible rfl)
              try simp only [Act.put, List.setIfInBounds_toArray, List.set_cons_zero, List.set_cons_succ]
              refine wpAnyH_take (i := 5) (oi := ?oi25) (v := ?v25) ?hi25 (by kernel_rfl) (by kernel_rfl) (by kernel_rfl) ?hQ25 ?hy25 (by assumption) ?rest25
              case hi25 => (simp only [List.getElem?_toArray, List.getElem?_cons_succ, List.getElem?_cons_zero]; rfl)
              case hQ25 => exact fun _ _ _ h => h
              case hy25 => (refine Or.inl ⟨by rfl, ?_⟩; intro w hSw; (try dsimp only at hSw); go_simp; first | done | with_reducible rfl)
              try simp only [Act.put, List.setIfInBounds_toArray, List.set_cons_zero, List.set_cons_succ]
              refine wpAnyH_take (i := 7) (oi := ?oi26) (v := ?v26) ?hi26 (by kernel_rfl) (by kernel_rfl) (by kernel_rfl) ?hQ26 ?hy26 (by assumption) ?rest26
              case hi26 => (simp only [List.getElem?_toArray, List.getElem?_cons_succ, List.getElem?_cons_zero]; rfl)
              case hQ26 => exact fun _ _ _ h => h
              case hy26 => (refine Or.inl ⟨by rfl, ?_⟩; intro w hSw; (try dsimp only at hSw); go_simp; first | done | with_reducible rfl)
              try simp only [Act.put, List.setIfInBounds_toArray, List.set_cons_zero, List.set_cons_succ]
              refine wpAnyH_take (i := 8) (oi := ?oi27) (v := ?v27) ?hi27 (by kernel_rfl) (by kernel_rfl) (by kernel_rfl) ?hQ27 ?hy27 (by assumption) ?rest27
              case hi27 => (simp only [List.getElem?_toArray, List.getElem?_cons_succ, List.getElem?_cons_zero]; rfl)
              case hQ27 => exact fun _ _ _ h => h
              case hy27 => (refine Or.inl ⟨by rfl, ?_⟩; intro w hSw; (try dsimp only at hSw); go_simp; first | done | with_reducible rfl)
              try simp only [Act.put, List.setIfInBounds_toArray, List.set_cons_zero, List.set_cons_succ]
              refine wpAnyH_ready (rs := [1, 6]) (by kernel_rfl) (by simp) ?_
              refine AllReadyH.cons (o := ?oi28) ?hi28 (fun K hK => ?rest28) (AllReadyH.cons (o := ?oj28) ?hj28 (fun K hK => ?resu28) AllReadyH.nil)
              case hi28 => (simp only [List.getElem?_toArray, List.getElem?_cons_succ, List.getElem?_cons_zero]; rfl)
              case hj28 => (simp only [List.getElem?_toArray, List.getElem?_cons_succ, List.getElem?_cons_zero]; rfl)
              case rest28 =>
                rw [if_pos (by rfl)]
                go_simp
                refine hK.out _ _ U0 (fun hHeld => ?_)
                clear hK K
                try simp only [Act.put, List.setIfInBounds_toArray, List.set_cons_zero, List.set_cons_succ]
                refine wpAnyH_take (i := 4) (oi := ?oi29) (v := ?v29) ?hi29 (by kernel_rfl) (by kernel_rfl) (by kernel_rfl) ?hQ29 ?hy29 (by assumption) ?rest29
                case hi29 => (simp only [List.getElem?_toArray, List.getElem?_cons_succ, List.getElem?_cons_zero]; rfl)
                case hQ29 => exact fun _ _ _ h => h
                case hy29 => (refine Or.inl ⟨by rfl, ?_⟩; intro w hSw; (try dsimp only at hSw); go_simp; first | done | with_reducible rfl)
                try simp only [Act.put, List.setIfInBounds_toArray, List.set_cons_zero, List.set_cons_succ]
                refine wpAnyH_ready (rs := [6]) (by kernel_rfl) (by simp) ?_
                refine AllReadyH.cons (o := ?oi30) ?hi30 (fun K hK => ?rest30) AllReadyH.nil
                case hi30 => (simp only [List.getElem?_toArray, List.getElem?_cons_succ, List.getElem?_cons_zero]; rfl)
                rw [if_pos (by rfl)]
                go_simp
                refine hK.out _ _ U0 (fun hHeld => ?_)
                clear hK K
                try simp only [Act.put, List.setIfInBounds_toArray, List.set_cons_zero, List.set_cons_succ]
                refine wpAnyH_take (i := 9) (oi := ?oi31) (v := ?v31) ?hi31 (by kernel_rfl) (by kernel_rfl) (by kernel_rfl) ?hQ31 ?hy31 (by assumption) ?rest31
                case hi31 => (simp only [List.getElem?_toArray, List.getElem?_cons_succ, List.getElem?_cons_zero]; rfl)
                case hQ31 => exact fun _ _ _ h => h
                case hy31 => (refine Or.inl ⟨by rfl, ?_⟩; intro w hSw; (try dsimp only at hSw); go_simp; first | done | with_reducible rfl)
                try simp only [Act.put, List.setIfInBounds_toArray, List.set_cons_zero, List.set_cons_succ]
                refine wpAnyH_take (i := 10) (oi := ?oi32) (v := ?v32) ?hi32 (by kernel_rfl) (by kernel_rfl) (by kernel_rfl) ?hQ32 ?hy32 (by assumption) ?rest32
                case hi32 => (simp only [List.getElem?_toArray, List.getElem?_cons_succ, List.getElem?_cons_zero]; rfl)
                case hQ32 => exact fun _ _ _ h => h
                case hy32 => (refine Or.inl ⟨by rfl, ?_⟩; intro w hSw; (try dsimp only at hSw); go_simp; first | done | with_reducible rfl)
                try simp only [Act.put, List.setIfInBounds_toArray, List.set_cons_zero, List.set_cons_succ]
                refine wpAnyH_ready (rs := [11]) (by kernel_rfl) (by simp) ?_
                refine AllReadyH.cons (o := ?oi33) ?hi33 (fun K hK => ?rest33) AllReadyH.nil
                case hi33 => (simp only [List.getElem?_toArray, List.getElem?_cons_succ, List.getElem?_cons_zero]; rfl)
                rw [if_pos (by rfl)]
                go_simp
                refine hK.out _ _ U1 (fun hHeld => ?_)
                clear hK K
                try simp only [Act.put, List.setIfInBounds_toArray, List.set_cons_zero, List.set_cons_succ]
                refine wpAnyH_take (i := 12) (oi := ?oi34) (v := ?v34) ?hi34 (by kernel_rfl) (by kernel_rfl) (by kernel_rfl) ?hQ34 ?hy34 (by assumption) ?rest34
                case hi34 => (simp only [List.getElem?_toArray, List.getElem?_cons_succ, List.getElem?_cons_zero]; rfl)
                case hQ34 => exact fun _ _ _ h => h
                case hy34 => (refine Or.inl ⟨by rfl, ?_⟩; intro w hSw; (try dsimp only at hSw); go_simp; first | done | with_reducible rfl)
                try simp only [Act.put, List.setIfInBounds_toArray, List.set_cons_zero, List.set_cons_succ]
                refine wpAnyH_ready (rs := [13]) (by kernel_rfl) (by simp) ?_
                refine AllReadyH.cons (o := ?oi35) ?hi35 (fun K hK => ?rest35) AllReadyH.nil
                case hi35 => (simp only [List.getElem?_toArray, List.getElem?_cons_succ, List.getElem?_cons_zero]; rfl)
                rw [if_pos (by rfl)]
                go_simp
                refine hK.out _ _ U2 (fun hHeld => ?_)
                clear hK K
                try simp only [Act.put, List.setIfInBounds_toArray, List.set_cons_zero, List.set_cons_succ]
                refine wpAnyH_done (by kernel_rfl) ?_ _
                go_wp2_with fail
                go_roundw
                case rel => exact ⟨k + 1, o, min a' x0, max b' x1, by omega, by simp, by omega, HC, hown2, HS1.drew, hch2, HM0.out, HM1.out, HM2.out⟩
                case measure => simp [intOf]; omega
              case resu28 =>
                rw [if_pos (by rfl)]
                go_simp
                refine hK.out _ _ U0 (fun hHeld => ?_)
                clear hK K
                try simp only [Act.put, List.setIfInBounds_toArray, List.set_cons_zero, List.set_cons_succ]
                refine wpAnyH_take (i := 9) (oi := ?oi36) (v := ?v36) ?hi36 (by kernel_rfl) (by kernel_rfl) (by kernel_rfl) ?hQ36 ?hy36 (by assumption) ?rest36
                case hi36 => (simp only [List.getElem?_toArray, List.getElem?_cons_succ, List.getElem?_cons_zero]; rfl)
                case hQ36 => exact fun _ _ _ h => h
                case hy36 => (refine Or.inl ⟨by rfl, ?_⟩; intro w hSw; (try dsimp only at hSw); go_simp; first | done | with_reducible rfl)
                try simp only [Act.put, List.setIfInBounds_toArray, List.set_cons_zero, List.set_cons_succ]
                refine wpAnyH_ready (rs := [1]) (by kernel_rfl) (by simp) ?_
                refine AllReadyH.cons (o := ?oi37) ?hi37 (fun K hK => ?rest37) AllReadyH.nil
                case hi37 => (simp only [List.getElem?_toArray, List.getElem?_cons_succ, List.getElem?_cons_zero]; rfl)
                rw [if_pos (by rfl)]
                go_simp
                refine hK.out _ _ U0 (fun hHeld => ?_)
                clear hK K
                try simp only [Act.put, List.setIfInBounds_toArray, List.set_cons_zero, List.set_cons_succ]
                refine wpAnyH_take (i := 4) (oi := ?oi38) (v := ?v38) ?hi38 (by kernel_rfl) (by kernel_rfl) (by kernel_rfl) ?hQ38 ?hy38 (by assumption) ?rest38
                case hi38 => (simp only [List.getElem?_toArray, List.getElem?_cons_succ, List.getElem?_cons_zero]; rfl)
                case hQ38 => exact fun _ _ _ h => h
                case hy38 => (refine Or.inl ⟨by rfl, ?_⟩; intro w hSw; (try dsimp only at hSw); go_simp; first | done | with_reducible rfl)
                try simp only [Act.put, List.setIfInBounds_toArray, List.set_cons_zero, List.set_cons_succ]
                refine wpAnyH_take (i := 10) (oi := ?oi39) (v := ?v39) ?hi39 (by kernel_rfl) (by kernel_rfl) (by kernel_rfl) ?hQ39 ?hy39 (by assumption) ?rest39
                case hi39 => (simp only [List.getElem?_toArray, List.getElem?_cons_succ, List.getElem?_cons_zero]; rfl)
                case hQ39 => exact fun _ _ _ h => h
                case hy39 => (refine Or.inl ⟨by rfl, ?_⟩; intro w hSw; (try dsimp only at hSw); go_simp; first | done | with_reducible rfl)
                try simp only [Act.put, List.setIfInBounds_toArray, List.set_cons_zero, List.set_cons_succ]
                refine wpAnyH_ready (rs := [11]) (by kernel_rfl) (by simp) ?_
                refine AllReadyH.cons (o := ?oi40) ?hi40 (fun K hK => ?rest40) AllReadyH.nil
                case hi40 => (simp only [List.getElem?_toArray, List.getElem?_cons_succ, List.getElem?_cons_zero]; rfl)
                rw [if_pos (by rfl)]
                go_simp
                refine hK.out _ _ U1 (fun hHeld => ?_)
                clear hK K
                try simp only [Act.put, List.setIfInBounds_toArray, List.set_cons_zero, List.set_cons_succ]
                refine wpAnyH_take (i := 12) (oi := ?oi41) (v := ?v41) ?hi41 (by kernel_rfl) (by kernel_rfl) (by kernel_rfl) ?hQ41 ?hy41 (by assumption) ?rest41
                case hi41 => (simp only [List.getElem?_toArray, List.getElem?_cons_succ, List.getElem?_cons_zero]; rfl)
                case hQ41 => exact fun _ _ _ h => h
                case hy41 => (refine Or.inl ⟨by rfl, ?_⟩; intro w hSw; (try dsimp only at hSw); go_simp; first | done | with_reducible rfl)
                try simp only [Act.put, List.setIfInBounds_toArray, List.set_cons_zero, List.set_cons_succ]
                refine wpAnyH_ready (rs := [13]) (by kernel_rfl) (by simp) ?_
                refine AllReadyH.cons (o := ?oi42) ?hi42 (fun K hK => ?rest42) AllReadyH.nil
                case hi42 => (simp only [List.getElem?_toArray, List.getElem?_cons_succ, List.getElem?_cons_zero]; rfl)
                rw [if_pos (by rfl)]
                go_simp
                refine hK.out _ _ U2 (fun hHeld => ?_)
                clear hK K
                try simp only [Act.put, List.setIfInBounds_toArray, List.set_cons_zero, List.set_cons_succ]
                refine wpAnyH_done (by kernel_rfl) ?_ _
                go_wp2_with fail
                go_roundw
                case rel => exact ⟨k + 1, o, min a' x0, max b' x1, by omega, by simp, by omega, HC, hown2, HS1.drew, hch2, HM0.out, HM1.out, HM2.out⟩
                case measure => simp [intOf]; omega
            · have q3d : decide (b' < x0) = false := decide_eq_false q3
              have hg0 : coverL l a b = o ++ coverL (l.drop (k + 1)) (min a' x0) (max b' x1) := by rw [hcov.out, HD.out, coverL, if_neg qA, if_neg qB]
              have HC := Lib.hid hg0
              have HM0 := Lib.hid (show min a' x0 ≤ max b' x1 by omega)
              have HM1 := Lib.hid (show -9223372036854775808 ≤ min a' x0 by omega)
              have HM2 := Lib.hid (show max b' x1 < 9223372036854775807 by omega)
              clear hg0 hsrc
              have hown1 := own_alloc hown (.cells #[.int .i64 x0, .int .i64 x1] 47)
              have hne : wr.heap.size ≠ b0 := by omega
              go_wp2_with fail
              generalize hgx : wr.heap.size = gx at *
              generalize wr.alloc _ = W1 at *
              have HS0 := hbl1.set 0 (.int .i64 (min a' x0))
              have HS1 := HS0.set 1 (.int .i64 (max b' x1))
              have z0 : W1.drew.frozen? ⟨b0, 0, none⟩ = false := hbl1.free 0
              have z1 : (W1.setCell ⟨b0, 0, none⟩ (.int .i64 (min a' x0))).drew.frozen? ⟨b0, 1, none⟩ = false := HS0.free 1
              have hx1 := hnb.chg (Chg.setCell (S := fun q => q = b0) (Chg.refl (fun q => q = b0) W1) ⟨b0, 0, none⟩ rfl (.int .i64 (min a' x0))) (show ¬ gx = b0 from hne)
              have hx2 := hx1.chg (Chg.setCell (S := fun q => q = b0) (Chg.refl (fun q => q = b0) (W1.setCell ⟨b0, 0, none⟩ (.int .i64 (min a' x0)))) ⟨b0, 1, none⟩ rfl (.int .i64 (max b' x1))) (show ¬ gx = b0 from hne)
              have U0 : W1.drew.cell? ⟨gx, 0, none⟩ = some (.int .i64 x0) ∧ W1.drew.cell? ⟨gx, 1, none⟩ = some (.int .i64 x1) := ⟨d0, d1⟩
              have U1 : (W1.setCell ⟨b0, 0, none⟩ (.int .i64 (min a' x0))).drew.cell? ⟨gx, 0, none⟩ = some (.int .i64 x0) ∧ (W1.setCell ⟨b0, 0, none⟩ (.int .i64 (min a' x0))).drew.cell? ⟨gx, 1, none⟩ = some (.int .i64 x1) := ⟨hx1.cell 0, hx1.cell 1⟩
              have U2 : ((W1.setCell ⟨b0, 0, none⟩ (.int .i64 (min a' x0))).setCell ⟨b0, 1, none⟩ (.int .i64 (max b' x1))).drew.cell? ⟨gx, 0, none⟩ = some (.int .i64 x0) ∧ ((W1.setCell ⟨b0, 0, none⟩ (.int .i64 (min a' x0))).setCell ⟨b0, 1, none⟩ (.int .i64 (max b' x1))).drew.cell? ⟨gx, 1, none⟩ = some (.int .i64 x1) := ⟨hx2.cell 0, hx2.cell 1⟩
              have hch2 := ((hch1.setCell ⟨b0, 0, none⟩ (Nat.le_refl _) (.int .i64 (min a' x0))).setCell ⟨b0, 1, none⟩ (Nat.le_refl _) (.int .i64 (max b' x1))).drew
              have hown2 := own_drew (own_chg hown1 (Chg.setCell (S := fun q => q = b0) (Chg.setCell (S := fun q => q = b0) (Chg.refl (fun q => q = b0) W1) ⟨b0, 0, none⟩ rfl (.int .i64 (min a' x0))) ⟨b0, 1, none⟩ rfl (.int .i64 (max b' x1))) (fun q hq _ => by omega))
              clear hx1 hx2 HS0
              refine wp_region_held_drew (S := fun w' => w'.cell? ⟨gx, 0, none⟩ = some (.int .i64 x0) ∧ w'.cell? ⟨gx, 1, none⟩ = some (.int .i64 x1)) (by kernel_rfl) U0 (fun hHeld => ?_)
              refine wpAnyH_take (i := 0) (oi := ?oi43) (v := ?v43) ?hi43 (by kernel_rfl) (by kernel_rfl) (by kernel_rfl) ?hQ43 ?hy43 (by assumption) ?rest43
              case hi43 => (simp only [List.getElem?_toArray, List.getElem?_cons_succ, List.getElem?_cons_zero]; rfl)
              case hQ43 => exact fun _ _ _ h => h
              case hy43 => (refine Or.inl ⟨by rfl, ?_⟩; intro w hSw; (try dsimp only at hSw); go_simp; first | done | with_reducible rfl)
              try simp only [Act.put, List.setIfInBounds_toArray, List.set_cons_zero, List.set_cons_succ]
              refine wpAnyH_take (i := 2) (oi := ?oi44) (v := ?v44) ?hi44 (by kernel_rfl) (by kernel_rfl) (by kernel_rfl) ?hQ44 ?hy44 (by assumption) ?rest44
              case hi44 => (simp only [List.getElem?_toArray, List.getElem?_cons_succ, List.getElem?_cons_zero]; rfl)
              case hQ44 => exact fun _ _ _ h => h
              case hy44 => (refine Or.inl ⟨by rfl, ?_⟩; intro w hSw; (try dsimp only at hSw); go_simp; first | done | with_reducible rfl)
              try simp only [Act.put, List.setIfInBounds_toArray, List.set_cons_zero, List.set_cons_succ]
              refine wpAnyH_take (i := 3) (oi := ?oi45) (v := ?v45) ?hi45 (by kernel_rfl) (by kernel_rfl) (by kernel_rfl) ?hQ45 ?hy45 (by assumption) ?rest45
              case hi45 => (simp only [List.getElem?_toArray, List.getElem?_cons_succ, List.getElem?_cons_zero]; rfl)
              case hQ45 => exact fun _ _ _ h => h
              case hy45 => (refine Or.inl ⟨by rfl, ?_⟩; intro w hSw; (try dsimp only at hSw); go_simp; first | done | with_reducible rfl)
              try simp only [Act.put, List.setIfInBounds_toArray, List.set_cons_zero, List.set_cons_succ]
              refine wpAnyH_take (i := 5) (oi := ?oi46) (v := ?v46) ?hi46 (by kernel_rfl) (by kernel_rfl) (by kernel_rfl) ?hQ46 ?hy46 (by assumption) ?rest46
              case hi46 => (simp only [List.getElem?_toArray, List.getElem?_cons_succ, List.getElem?_cons_zero]; rfl)
              case hQ46 => exact fun _ _ _ h => h
              case hy46 => (refine Or.inl ⟨by rfl, ?_⟩; intro w hSw; (try dsimp only at hSw); go_simp; first | done | with_reducible rfl)
              try simp only [Act.put, List.setIfInBounds_toArray, List.set_cons_zero, List.set_cons_succ]
              refine wpAnyH_take (i := 7) (oi := ?oi47) (v := ?v47) ?hi47 (by kernel_rfl) (by kernel_rfl) (by kernel_rfl) ?hQ47 ?hy47 (by assumption) ?rest47
              case hi47 => (simp only [List.getElem?_toArray, List.getElem?_cons_succ, List.getElem?_cons_zero]; rfl)
              case hQ47 => exact fun _ _ _ h => h
              case hy47 => (refine Or.inl ⟨by rfl, ?_⟩; intro w hSw; (try dsimp only at hSw); go_simp; first | done | with_reducible rfl)
              try simp only [Act.put, List.setIfInBounds_toArray, List.set_cons_zero, List.set_cons_succ]
              refine wpAnyH_take (i := 8) (oi := ?oi48) (v := ?v48) ?hi48 (by kernel_rfl) (by kernel_rfl) (by kernel_rfl) ?hQ48 ?hy48 (by assumption) ?rest48
              case hi48 => (simp only [List.getElem?_toArray, List.getElem?_cons_succ, List.getElem?_cons_zero]; rfl)
              case hQ48 => exact fun _ _ _ h => h
              case hy48 => (refine Or.inl ⟨by rfl, ?_⟩; intro w hSw; (try dsimp only at hSw); go_simp; first | done | with_reducible rfl)
              try simp only [Act.put, List.setIfInBounds_toArray, List.set_cons_zero, List.set_cons_succ]
              refine wpAnyH_ready (rs := [1, 6]) (by kernel_rfl) (by simp) ?_
              refine AllReadyH.cons (o := ?oi49) ?hi49 (fun K hK => ?rest49) (AllReadyH.cons (o := ?oj49) ?hj49 (fun K hK => ?resu49) AllReadyH.nil)
              case hi49 => (simp only [List.getElem?_toArray, List.getElem?_cons_succ, List.getElem?_cons_zero]; rfl)
              case hj49 => (simp only [List.getElem?_toArray, List.getElem?_cons_succ, List.getElem?_cons_zero]; rfl)
              case rest49 =>
                rw [if_pos (by rfl)]
                go_simp
                refine hK.out _ _ U0 (fun hHeld => ?_)
                clear hK K
                try simp only [Act.put, List.setIfInBounds_toArray, List.set_cons_zero, List.set_cons_succ]
                refine wpAnyH_take (i := 4) (oi := ?oi50) (v := ?v50) ?hi50 (by kernel_rfl) (by kernel_rfl) (by kernel_rfl) ?hQ50 ?hy50 (by assumption) ?rest50
                case hi50 => (simp only [List.getElem?_toArray, List.getElem?_cons_succ, List.getElem?_cons_zero]; rfl)
                case hQ50 => exact fun _ _ _ h => h
                case hy50 => (refine Or.inl ⟨by rfl, ?_⟩; intro w hSw; (try dsimp only at hSw); go_simp; first | done | with_reducible rfl)
                try simp only [Act.put, List.setIfInBounds_toArray, List.set_cons_zero, List.set_cons_succ]
                refine wpAnyH_ready (rs := [6]) (by kernel_rfl) (by simp) ?_
                refine AllReadyH.cons (o := ?oi51) ?hi51 (fun K hK => ?rest51) AllReadyH.nil
                case hi51 => (simp only [List.getElem?_toArray, List.getElem?_cons_succ, List.getElem?_cons_zero]; rfl)
                rw [if_pos (by rfl)]
                go_simp
                refine hK.out _ _ U0 (fun hHeld => ?_)
                clear hK K
                try simp only [Act.put, List.setIfInBounds_toArray, List.set_cons_zero, List.set_cons_succ]
                refine wpAnyH_take (i := 9) (oi := ?oi52) (v := ?v52) ?hi52 (by kernel_rfl) (by kernel_rfl) (by kernel_rfl) ?hQ52 ?hy52 (by assumption) ?rest52
                case hi52 => (simp only [List.getElem?_toArray, List.getElem?_cons_succ, List.getElem?_cons_zero]; rfl)
                case hQ52 => exact fun _ _ _ h => h
                case hy52 => (refine Or.inl ⟨by rfl, ?_⟩; intro w hSw; (try dsimp only at hSw); go_simp; first | done | with_reducible rfl)
                try simp only [Act.put, List.setIfInBounds_toArray, List.set_cons_zero, List.set_cons_succ]
                refine wpAnyH_take (i := 10) (oi := ?oi53) (v := ?v53) ?hi53 (by kernel_rfl) (by kernel_rfl) (by kernel_rfl) ?hQ53 ?hy53 (by assumption) ?rest53
                case hi53 => (simp only [List.getElem?_toArray, List.getElem?_cons_succ, List.getElem?_cons_zero]; rfl)
                case hQ53 => exact fun _ _ _ h => h
                case hy53 => (refine Or.inl ⟨by rfl, ?_⟩; intro w hSw; (try dsimp only at hSw); go_simp; first | done | with_reducible rfl)
                try simp only [Act.put, List.setIfInBounds_toArray, List.set_cons_zero, List.set_cons_succ]
                refine wpAnyH_ready (rs := [11]) (by kernel_rfl) (by simp) ?_
                refine AllReadyH.cons (o := ?oi54) ?hi54 (fun K hK => ?rest54) AllReadyH.nil
                case hi54 => (simp only [List.getElem?_toArray, List.getElem?_cons_succ, List.getElem?_cons_zero]; rfl)
                rw [if_pos (by rfl)]
                go_simp
                refine hK.out _ _ U1 (fun hHeld => ?_)
                clear hK K
                try simp only [Act.put, List.setIfInBounds_toArray, List.set_cons_zero, List.set_cons_succ]
                refine wpAnyH_take (i := 12) (oi := ?oi55) (v := ?v55) ?hi55 (by kernel_rfl) (by kernel_rfl) (by kernel_rfl) ?hQ55 ?hy55 (by assumption) ?rest55
                case hi55 => (simp only [List.getElem?_toArray, List.getElem?_cons_succ, List.getElem?_cons_zero]; rfl)
                case hQ55 => exact fun _ _ _ h => h
                case hy55 => (refine Or.inl ⟨by rfl, ?_⟩; intro w hSw; (try dsimp only at hSw); go_simp; first | done | with_reducible rfl)
                try simp only [Act.put, List.setIfInBounds_toArray, List.set_cons_zero, List.set_cons_succ]
                refine wpAnyH_ready (rs := [13]) (by kernel_rfl) (by simp) ?_
                refine AllReadyH.cons (o := ?oi56) ?hi56 (fun K hK => ?rest56) AllReadyH.nil
                case hi56 => (simp only [List.getElem?_toArray, List.getElem?_cons_succ, List.getElem?_cons_zero]; rfl)
                rw [if_pos (by rfl)]
                go_simp
                refine hK.out _ _ U2 (fun hHeld => ?_)
                clear hK K
                try simp only [Act.put, List.setIfInBounds_toArray, List.set_cons_zero, List.set_cons_succ]
                refine wpAnyH_done (by kernel_rfl) ?_ _
                go_wp2_with fail
                go_roundw
                case rel => exact ⟨k + 1, o, min a' x0, max b' x1, by omega, by simp, by omega, HC, hown2, HS1.drew, hch2, HM0.out, HM1.out, HM2.out⟩
                case measure => simp [intOf]; omega
              case resu49 =>
                rw [if_pos (by rfl)]
                go_simp
                refine hK.out _ _ U0 (fun hHeld => ?_)
                clear hK K
                try simp only [Act.put, List.setIfInBounds_toArray, List.set_cons_zero, List.set_cons_succ]
                refine wpAnyH_take (i := 9) (oi := ?oi57) (v := ?v57) ?hi57 (by kernel_rfl) (by kernel_rfl) (by kernel_rfl) ?hQ57 ?hy57 (by assumption) ?rest57
                case hi57 => (simp only [List.getElem?_toArray, List.getElem?_cons_succ, List.getElem?_cons_zero]; rfl)
                case hQ57 => exact fun _ _ _ h => h
                case hy57 => (refine Or.inl ⟨by rfl, ?_⟩; intro w hSw; (try dsimp only at hSw); go_simp; first | done | with_reducible rfl)
                try simp only [Act.put, List.setIfInBounds_toArray, List.set_cons_zero, List.set_cons_succ]
                refine wpAnyH_ready (rs := [1]) (by kernel_rfl) (by simp) ?_
                refine AllReadyH.cons (o := ?oi58) ?hi58 (fun K hK => ?rest58) AllReadyH.nil
                case hi58 => (simp only [List.getElem?_toArray, List.getElem?_cons_succ, List.getElem?_cons_zero]; rfl)
                rw [if_pos (by rfl)]
                go_simp
                refine hK.out _ _ U0 (fun hHeld => ?_)
                clear hK K
                try simp only [Act.put, List.setIfInBounds_toArray, List.set_cons_zero, List.set_cons_succ]
                refine wpAnyH_take (i := 4) (oi := ?oi59) (v := ?v59) ?hi59 (by kernel_rfl) (by kernel_rfl) (by kernel_rfl) ?hQ59 ?hy59 (by assumption) ?rest59
                case hi59 => (simp only [List.getElem?_toArray, List.getElem?_cons_succ, List.getElem?_cons_zero]; rfl)
                case hQ59 => exact fun _ _ _ h => h
                case hy59 => (refine Or.inl ⟨by rfl, ?_⟩; intro w hSw; (try dsimp only at hSw); go_simp; first | done | with_reducible rfl)
                try simp only [Act.put, List.setIfInBounds_toArray, List.set_cons_zero, List.set_cons_succ]
                refine wpAnyH_take (i := 10) (oi := ?oi60) (v := ?v60) ?hi60 (by kernel_rfl) (by kernel_rfl) (by kernel_rfl) ?hQ60 ?hy60 (by assumption) ?rest60
                case hi60 => (simp only [List.getElem?_toArray, List.getElem?_cons_succ, List.getElem?_cons_zero]; rfl)
                case hQ60 => exact fun _ _ _ h => h
                case hy60 => (refine Or.inl ⟨by rfl, ?_⟩; intro w hSw; (try dsimp only at hSw); go_simp; first | done | with_reducible rfl)
                try simp only [Act.put, List.setIfInBounds_toArray, List.set_cons_zero, List.set_cons_succ]
                refine wpAnyH_ready (rs := [11]) (by kernel_rfl) (by simp) ?_
                refine AllReadyH.cons (o := ?oi61) ?hi61 (fun K hK => ?rest61) AllReadyH.nil
                case hi61 => (simp only [List.getElem?_toArray, List.getElem?_cons_succ, List.getElem?_cons_zero]; rfl)
                rw [if_pos (by rfl)]
                go_simp
                refine hK.out _ _ U1 (fun hHeld => ?_)
                clear hK K
                try simp only [Act.put, List.setIfInBounds_toArray, List.set_cons_zero, List.set_cons_succ]
                refine wpAnyH_take (i := 12) (oi := ?oi62) (v := ?v62) ?hi62 (by kernel_rfl) (by kernel_rfl) (by kernel_rfl) ?hQ62 ?hy62 (by assumption) ?rest62
                case hi62 => (simp only [List.getElem?_toArray, List.getElem?_cons_succ, List.getElem?_cons_zero]; rfl)
                case hQ62 => exact fun _ _ _ h => h
                case hy62 => (refine Or.inl ⟨by rfl, ?_⟩; intro w hSw; (try dsimp only at hSw); go_simp; first | done | with_reducible rfl)
                try simp only [Act.put, List.setIfInBounds_toArray, List.set_cons_zero, List.set_cons_succ]
                refine wpAnyH_ready (rs := [13]) (by kernel_rfl) (by simp) ?_
                refine AllReadyH.cons (o := ?oi63) ?hi63 (fun K hK => ?rest63) AllReadyH.nil
                case hi63 => (simp only [List.getElem?_toArray, List.getElem?_cons_succ, List.getElem?_cons_zero]; rfl)
                rw [if_pos (by rfl)]
                go_simp
                refine hK.out _ _ U2 (fun hHeld => ?_)
                clear hK K
                try simp only [Act.put, List.setIfInBounds_toArray, List.set_cons_zero, List.set_cons_succ]
                refine wpAnyH_done (by kernel_rfl) ?_ _
                go_wp2_with fail
                go_roundw
                case rel => exact ⟨k + 1, o, min a' x0, max b' x1, by omega, by simp, by omega, HC, hown2, HS1.drew, hch2, HM0.out, HM1.out, HM2.out⟩
                case measure => simp [intOf]; omega
    · obtain rfl : k = l.length := by omega
      have hO := own_alloc hown (.cells #[.int .i64 a', .int .i64 b'] 47)
      have hnew := heap_alloc_new wr (.cells #[.int .i64 a', .int .i64 b'] 47)
      have HC := Lib.hid (show coverL l a b = o ++ [(a', b')] by rw [hcov.out, List.drop_length]; rfl)
      go_wp2_with (first | (at_builtin; refine list_app 22 47 i0 _ 2 16 rfl (.tmp 79) (.tmp 81) rfl rfl Tryz.underlying22 hi hz0 hz1 hz2 rfl (by decide) (by decide) (b0 + 1) (.slice za o.length zc) o.length (flatI o) rfl hO wr.heap.size rfl [.int .i64 a', .int .i64 b'] rfl hnew (one2 _ _ _ _) (by omega) (by simp; omega) ?_; intro v' w1 ho hg) | fail)
      go_ret
      have hch2 := (hch.alloc (.cells #[.int .i64 a', .int .i64 b'] 47)).grown hg (fun q hq => by have := (hO.lt q hq).1; omega)
      subst hbb
      refine ⟨_, rfl, own_base (base := w.heap.size + 1) ?_ (by omega), hch2.below _ (Nat.le_refl _) (fun q hq => by omega)⟩
      rw [HC.out, List.length_append, flatI, flat_append]
      exact ho
end Go.Proofs.YtfllcbcokncgpaaGreatDoor
