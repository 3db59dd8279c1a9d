/-
  Selector.Matches; impl.SelectorMatches.
-/
import Derived.Test.YtapoodnjkkhggaaGreatMt
import Derived.Deep.RegionHeld3
import Derived.Deep.Cut
namespace Go.Proofs.YtapoodnjkkhggaaGreat
set_option linter.unusedSimpArgs false
set_option linter.unusedVariables false
open Go.RowKit

abbrev PMT : TypeId := 74
abbrev SMT : TypeId := 73
/-- the value of a name, empty without one -/
def valS (l : List Lb) (n : ByteArray) : ByteArray := (look l n).getD ⟨#[]⟩
def okM (l : List Lb) (m : Mt) : Bool := mP m (valS l m.2.1)
def ptrs (ps : List Nat) : List Value := ps.map fun p => .pointer (some ⟨p, 0, none⟩)
/-- matchers in memory -/
def Mats (w : World) (ps : List Nat) (ms : List Mt) : Prop := ps.length = ms.length ∧ ∀ i (hi : i < ps.length) (hm : i < ms.length), Blk w ps[i] (mcells ms[i]) MT
set_option maxRecDepth 100000 in
set_option maxHeartbeats 4000000 in
theorem selMatches_any (v : Value) (ps : List Nat) (ms : List Mt) (l : List Lb) (base : Nat) (w : World) (ho : w.ownsRow base PMT 1 v ps.length (ptrs ps)) (hM : Mats w ps ms) (hty : ∀ m ∈ ms, m.1 = 0 ∨ m.1 = 1) (hn : ms.length ≤ 1000) (hL : Lbl l) :
    Calls Tryz.prog 44 #[v, lbsV l] w fun e w' => e = .returned (.bool (ms.all (okM l))) ∧ Below w.heap.size w w' := by
  have hG := fun n w => get_any l n w hL.asc hL.name hL.fit hL.enc hL.len
  have hS := Sl.own ho
  obtain ⟨ao, cap, rfl, h1, h2⟩ := hS.form
  obtain ⟨hlen, hB⟩ := hM
  unfold lbsV at *
  generalize (⟨(encL l).toArray⟩ : ByteArray) = d at *
  have hX := Blk.new w [.string d] LST
  have hbX := below_new w (.cells #[.string d] LST)
  rw [hlen]
  clear ho
  go_enter Tryz.func44, Tryz.ntmps44
  go_wp2_with fail
  go_loopw [10] (fun i wr => ∃ k : Nat, k ≤ ms.length ∧ i = .int .i64 k ∧ Hid ((ms.take k).all (okM l) = true) ∧ Below (w.heap.size + 1) (w.alloc (.cells #[.string d] LST)) wr) (fun i _ => ms.length - (intOf i).toNat)
  case atStart => exact ⟨0, Nat.zero_le _, rfl, Lib.hid (by simp), Below.refl _ _⟩
  case round =>
    obtain ⟨k, hk, rfl, hall, hbel⟩ := hrel
    have hbw : Below w.heap.size w wr := hbX.trans (hbel.mono (Nat.le_succ _))
    have hz1 : w.heap.size + 1 ≤ wr.heap.size := by have := hbel.size; simpa using this
    by_cases hlt : k < ms.length
    · have cX := (hbel.cell (p := ⟨w.heap.size, 0, none⟩) (Nat.lt_succ_self _)).trans (hX.cell 0)
      simp only [List.getElem?_cons_zero] at cX
      obtain ⟨b, off, rfl, hbb, _, hcc⟩ := Sl.at_ hS (by omega)
      have hpk : k < ps.length := by omega
      have d0 := (hbw.cell (p := ⟨b, off + k, none⟩) hbb).trans (hcc k (by omega))
      have hBk := (hB k hpk hlt).chg (Chg.ofBelow hbw) (fun c => by have := (hB k hpk hlt).lt; omega)
      have hmt := hty _ (List.getElem_mem hlt)
      have HA := Lib.hid (show (ms.take (k + 1)).all (okM l) = ((ms.take k).all (okM l) && okM l ms[k]) by rw [take_next hlt, List.all_append]; simp)
      have HM := Lib.hid (List.getElem_mem hlt)
      have e1 : (ptrs ps).getD k undef = .pointer (some ⟨ps[k], 0, none⟩) := by simp [ptrs, List.getD_eq_getElem?_getD, hpk]
      rw [e1] at d0
      clear hcc e1
      generalize ps[k] = p at *
      generalize ms[k] = m at *
      have hMm := fun w' hB' => mMatches_any m p (valS l m.2.1) w' hmt hB'
      have HV : Hid (mP m (valS l m.2.1) = okM l m) := Lib.hid rfl
      have hGm := hG m.2.1
      rw [show (look l m.2.1).getD ⟨#[]⟩ = valS l m.2.1 from rfl] at hGm
      generalize valS l m.2.1 = val at *
      have c1 := hBk.cell 1
      simp only [mcells, List.getElem?_cons_zero, List.getElem?_cons_succ] at c1
      generalize m.2.1 = nm at *
      have i0 : (0 : Int) ≤ (k : Int) := by omega
      have i1 : (k : Int) < (ms.length : Int) := by omega
      have hS0 : wr.drew.cell? ⟨w.heap.size, 0, none⟩ = some (.string d) ∧ wr.drew.cell? ⟨p, 1, none⟩ = some (.string nm) := ⟨cX, c1⟩
      go_upto_region 4 with fail
      go_region_held3 (fun w' => w'.cell? ⟨w.heap.size, 0, none⟩ = some (.string d) ∧ w'.cell? ⟨p, 1, none⟩ = some (.string nm)) (first | (with_reducible exact hS0) | (with_reducible exact hS1) | fail) (first
        | ((with_reducible refine (hGm _).mono ?_); rintro e w1 ⟨rfl, hb1⟩; have hS1 : w1.cell? ⟨w.heap.size, 0, none⟩ = some (.string d) ∧ w1.cell? ⟨p, 1, none⟩ = some (.string nm) := ⟨(hb1.cell (lt_of_cell hS0.1).1).trans hS0.1, (hb1.cell (lt_of_cell hS0.2).1).trans hS0.2⟩)
        | fail)
      have hbw1 := hbw.drew.trans (hb1.mono (by have := hbw.size; exact this))
      have hbel1 := hbel.drew.trans (hb1.mono (by exact hz1))
      have hB1 := hBk.drew.chg (Chg.ofBelow hb1) (fun c => by have := hBk.lt; have c' : wr.heap.size ≤ p := c; omega)
      have hM1 := hMm w1 hB1
      clear hS0 hS1 hMm hGm hG hBk hB1 c1
      cases q : mP m val
      · rw [q] at hM1
        have HX := Lib.hid (HV.out.symm.trans q)
        clear q
        go_wp2_with ((with_reducible refine hM1.mono ?_); rintro e w2 ⟨rfl, rfl⟩)
        go_ret
        exact ⟨eqb (by symm; rw [List.all_eq_false]; exact ⟨_, HM.out, by rw [HX.out]; simp⟩), hbw1⟩
      · rw [q] at hM1
        have HX := Lib.hid (HV.out.symm.trans q)
        clear q
        go_wp2_with ((with_reducible refine hM1.mono ?_); rintro e w2 ⟨rfl, rfl⟩)
        go_roundw
        case rel => exact ⟨k + 1, by omega, by simp, Lib.hid (by rw [HA.out, hall.out, HX.out]; rfl), hbel1⟩
        case measure => simp [intOf]; omega
    · obtain rfl : k = ms.length := by omega
      have := hall.out
      rw [List.take_length] at this
      have HX := Lib.hid this
      clear this
      go_wp2_with fail
      go_ret
      exact ⟨eqb HX.out.symm, hbw⟩

theorem infoPM : (Tryz.prog.info? PMT).map (fun i => (i.zero, i.size, i.bytes)) = some (some (.pointer none), 1, 8) := by kernel_rfl
theorem one1p (p : Nat) : ∀ u ∈ [Value.pointer (some ⟨p, 0, none⟩)], u.oneCell' = true := by intro u hu; simp at hu; subst hu; rfl
set_option maxRecDepth 100000 in
set_option maxHeartbeats 4000000 in
theorem selector_any (va : Value) (ms : List Mt) (vb : Value) (l : List Lb) (w : World) (h : Ms w va ms) (g : Ls w vb l) (hty : ∀ m ∈ ms, m.1 = 0 ∨ m.1 = 1) (hn : ms.length ≤ 8) (hl : l.length ≤ 12) (hf : FitL l) (hL : Lbl (sortL l)) :
    Calls Tryz.prog 16 #[va, vb] w fun e w' => e = .returned (.bool (ms.all (okM (sortL l)))) ∧ Below w.heap.size w w' := by
  obtain ⟨ao, cap, rfl, h1, h2⟩ := h.form
  obtain ⟨bo, bcap, rfl, g1, g2⟩ := g.form
  obtain ⟨i0, hi, hz0, hz1, hz2⟩ := info_parts infoPM
  go_enter Tryz.func16, Tryz.ntmps16
  go_wp2_with fail
  go_loopw [5, 11] (fun sv i wr => ∃ ps : List Nat, ps.length ≤ ms.length ∧ i = .int .i64 ps.length ∧ wr.ownsRow w.heap.size PMT 1 sv ps.length (ptrs ps) ∧ Mats wr ps (ms.take ps.length) ∧ Below w.heap.size w wr) (fun _ i _ => ms.length - (intOf i).toNat)
  case atStart => exact ⟨[], Nat.zero_le _, rfl, World.ownsRow_nil _ _ _ _, ⟨rfl, fun i hi => absurd hi (by simp)⟩, Below.refl _ _⟩
  case round =>
    obtain ⟨ps, hk, rfl, ho, hMt, hbel⟩ := hrel
    obtain ⟨za, zc, rfl⟩ := own_form ho
    by_cases hlt : ps.length < ms.length
    · obtain ⟨b, off, rfl, hb, hc⟩ := h.at_ (by omega)
      obtain ⟨c0, c1, c2⟩ := hc ps.length hlt
      have d0 := (hbel.cell (p := ⟨b, off + ps.length * 3, none⟩) hb).trans c0
      have d1 := (hbel.cell (p := ⟨b, off + ps.length * 3 + 1, none⟩) hb).trans c1
      have d2 := (hbel.cell (p := ⟨b, off + ps.length * 3 + 2, none⟩) hb).trans c2
      have HT := Lib.hid (take_next hlt)
      have hmt := hty _ (List.getElem_mem hlt)
      clear c0 c1 c2 hc
      generalize ms[ps.length] = m at *
      have hMa := fun w => matcher_any m w hmt
      obtain ⟨ty, nm, vl⟩ := m
      simp only at d0 d1 d2 hMa
      have i0' : (0 : Int) ≤ (ps.length : Int) := by omega
      have i1 : (ps.length : Int) < (ms.length : Int) := by omega
      have hbA := hbel.alloc hbel.size (.cells #[.int .i64 ty, .string nm, .string vl] IMT)
      have hoA := own_alloc ho (.cells #[.int .i64 ty, .string nm, .string vl] IMT)
      have hzA : wr.heap.size ≤ (wr.alloc (.cells #[.int .i64 ty, .string nm, .string vl] IMT)).heap.size := by simp
      have hMA : Mats (wr.alloc (.cells #[.int .i64 ty, .string nm, .string vl] IMT)) ps (ms.take ps.length) := ⟨hMt.1, fun i hi hm => (hMt.2 i hi hm).alloc _⟩
      generalize hNN : ps.length = N at *
      go_wp2_with fail
      refine (hMa _).mono ?_
      rintro e w1 ⟨p, rfl, hBp, hpz, hb1⟩
      have hb1' := hbA.trans (hb1.mono hbA.size)
      have ho1 := own_below hoA hb1 (fun q hq => (hoA.lt q hq).2)
      have hM1 : Mats w1 ps (ms.take N) := ⟨hMA.1, fun i hi hm => (hMA.2 i hi hm).chg (Chg.ofBelow hb1) (fun c => absurd (Nat.lt_of_lt_of_le ((hMA.2 i hi hm).lt) c) (Nat.lt_irrefl _))⟩
      have hO2 := own_alloc ho1 (.cells #[.pointer (some ⟨p, 0, none⟩)] PMT)
      have hX2 := heap_alloc_new w1 (.cells #[.pointer (some ⟨p, 0, none⟩)] PMT)
      have hM2 : Mats (w1.alloc (.cells #[.pointer (some ⟨p, 0, none⟩)] PMT)) ps (ms.take N) := ⟨hM1.1, fun i hi hm => (hM1.2 i hi hm).alloc _⟩
      have hB2 := hBp.alloc (.cells #[.pointer (some ⟨p, 0, none⟩)] PMT)
      have hb2 := hb1'.alloc hb1'.size (.cells #[.pointer (some ⟨p, 0, none⟩)] PMT)
      have hnb : N < 2147483648 := by omega
      have hsz : w.heap.size ≤ (w1.alloc (.cells #[.pointer (some ⟨p, 0, none⟩)] PMT)).heap.size := hb2.size
      clear hMa hoA hMA hbA hb1 hM1 ho1 hBp hpz d0 d1 d2
      go_wp2_with (first
        | (at_builtin; refine list_app SMT PMT i0 _ 1 8 rfl (.tmp 19) (.tmp 21) rfl rfl Tryz.underlying73 hi hz0 hz1 hz2 rfl (by decide) (by decide) w.heap.size (.slice za N zc) N (ptrs ps) rfl hO2 w1.heap.size rfl [.pointer (some ⟨p, 0, none⟩)] rfl hX2 (one1p p) hnb hsz ?_; intro v' w5 ho5 hg5)
        | fail)
      obtain ⟨va', vc', rfl⟩ := own_form ho5
      have hne : MT ≠ PMT := by decide
      have hM5 : Mats w5 (ps ++ [p]) (ms.take (N + 1)) := by
        rw [HT.out]
        refine ⟨by rw [List.length_append, List.length_append, hM2.1]; rfl, fun i hi hm => ?_⟩
        rcases Nat.lt_or_ge i ps.length with hip | hip
        · have hit : i < (ms.take N).length := by rw [← hM2.1]; exact hip
          rw [List.getElem_append_left hip, List.getElem_append_left hit]
          exact grown_keep hO2 hg5 (hM2.2 i hip hit) hne
        · have e1 : i = ps.length := by simp at hi; omega
          subst e1
          rw [List.getElem_append_right (Nat.le_refl _), List.getElem_append_right (by rw [hM2.1]; exact Nat.le_refl _)]
          simp only [Nat.sub_self, hM2.1, List.getElem_cons_zero]
          exact grown_keep hO2 hg5 hB2 hne
      have hb5 := hb2.grown hg5 hb2.size (fun q hq => (hO2.lt q hq).1)
      have hl5 : (ps ++ [p]).length = N + 1 := by rw [List.length_append, hNN]; rfl
      have hp5 : ptrs (ps ++ [p]) = ptrs ps ++ [.pointer (some ⟨p, 0, none⟩)] := by simp [ptrs]
      have HM := Lib.hid hM5
      have HB := Lib.hid hb5
      have HO := Lib.hid ho5
      clear hM5 hM2 hB2 hX2 hO2 hg5 hb2 hb5 ho5
      go_wp2_with fail
      go_roundw
      case rel => exact ⟨ps ++ [p], by rw [hl5]; omega, by rw [hl5]; go_num, by rw [hl5, hp5]; exact HO.out, by rw [hl5]; exact HM.out, HB.out⟩
      case measure => simp [intOf]; omega
    · have hfull : ps.length = ms.length := by omega
      rw [hfull, List.take_length] at hMt
      have hMd := made_any _ l wr (g.up hbel) hl hf
      rw [hfull]
      have i2 : ¬ (ms.length : Int) < (ms.length : Int) := by omega
      go_wp2_with ((with_reducible refine hMd.mono ?_); rintro e w1 ⟨rfl, hb1⟩)
      have hS := selMatches_any (.slice za ps.length zc) ps ms (sortL l) w.heap.size w1 (own_below ho hb1 (fun q hq => (ho.lt q hq).2)) ⟨hMt.1, fun i hi hm => (hMt.2 i hi hm).chg (Chg.ofBelow hb1) (fun c => by have := (hMt.2 i hi hm).lt; omega)⟩ hty (by omega) hL
      rw [hfull] at hS
      refine hS.mono ?_
      rintro e w2 ⟨rfl, hb2⟩
      go_wp2_with fail
      go_ret
      exact ⟨rfl, bnx (hbel.trans (hb1.mono hbel.size)) hb2⟩
end Go.Proofs.YtapoodnjkkhggaaGreat
