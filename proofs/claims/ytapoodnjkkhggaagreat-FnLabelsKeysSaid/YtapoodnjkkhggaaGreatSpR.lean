/-
  LabelsRight, Find, ValueOf.
-/
import Derived.Test.YtapoodnjkkhggaaGreatLs
import Derived.BigQuiet
namespace Go.Proofs.YtapoodnjkkhggaaGreat
set_option linter.unusedSimpArgs false
set_option linter.unusedVariables false
open Go.RowKit

theorem str_nil {x : ByteArray} (h : x.size ≠ 0) : (x.toList == []) = false := by
  rw [beq_eq_false_iff_ne]
  intro c
  apply h
  have := congrArg List.length c
  rw [Lib.toList_data] at this
  exact this
theorem str_nil0 {x : ByteArray} (h : x.size = 0) : x = ⟨#[]⟩ := by
  apply ByteArray.ext
  exact Array.eq_empty_of_size_eq_zero h
theorem str_ne {x y : ByteArray} (h : x ≠ y) : (x.toList == y.toList) = false := by rw [toList_beq, decide_eq_false h]
theorem not_of {c : Bool} {P : Prop} (hc : c = true ↔ P) (h : ¬ P) : false = c := by cases c; · rfl
                                                                                     · exact absurd (hc.1 rfl) h
set_option maxRecDepth 100000 in
set_option maxHeartbeats 4000000 in
theorem right_any (v : Value) (l : List Lb) (most bytes : Nat) (c : Bool) (w : World) (h : Ls w v l) (hc : c = true ↔ Right most bytes l) (hm : most < 1000000) (hb : bytes < 1000000) :
    Calls Tryz.prog 39 #[v, .int .i64 most, .int .i64 bytes] w fun e w' => e = .returned (.bool c) ∧ Below w.heap.size w w' := by
  obtain ⟨ao, cap, rfl, h1, h2⟩ := h.form
  by_cases c1 : most < l.length
  · have c1' : (most : Int) < (l.length : Int) := by omega
    have HC := Lib.hid (not_of hc (fun r => by have := r.1; omega))
    clear hc c1
    go_enter Tryz.func39, Tryz.ntmps39
    go_wp2_with fail
    go_ret
    exact ⟨eqb HC.out, Below.refl _ _⟩
  · have c1' : ¬ (most : Int) < (l.length : Int) := by omega
    have HC : Hid ((¬ ((∀ x ∈ l, x.1.size ≠ 0 ∧ x.1.size ≤ bytes ∧ x.2.size ≤ bytes) ∧ Uniq l) → false = c) ∧ (((∀ x ∈ l, x.1.size ≠ 0 ∧ x.1.size ≤ bytes ∧ x.2.size ≤ bytes) ∧ Uniq l) → true = c)) :=
      Lib.hid ⟨fun q => not_of hc (fun r => q r.2), fun q => (hc.2 ⟨by omega, q⟩).symm⟩
    clear hc c1
    go_enter Tryz.func39, Tryz.ntmps39
    go_wp2_with fail
    go_loopw [7, 8] (fun i _ wr => ∃ k : Nat, k ≤ l.length ∧ i = .int .i64 k ∧ Hid ((∀ x ∈ l.take k, x.1.size ≠ 0 ∧ x.1.size ≤ bytes ∧ x.2.size ≤ bytes) ∧ Uniq (l.take k)) ∧ Below w.heap.size w wr) (fun i _ _ => l.length - (intOf i).toNat)
    case atStart => exact ⟨0, Nat.zero_le _, rfl, Lib.hid ⟨fun x hx => by simp at hx, List.Pairwise.nil⟩, Below.refl _ _⟩
    case round => as_aux_lemma =>
      obtain ⟨k, hk, rfl, hall, hbel⟩ := hrel
      by_cases hlt : k < l.length
      · obtain ⟨b, off, rfl, hbB, hcc⟩ := h.at_ (by omega)
        obtain ⟨d0, d1⟩ := hcc k hlt
        have c2 := (hbel.cell (p := ⟨b, off + k * 2, none⟩) hbB).trans d0
        have c3 := (hbel.cell (p := ⟨b, off + k * 2 + 1, none⟩) hbB).trans d1
        have i0' : (0 : Int) ≤ (k : Int) := by omega
        have i1 : (k : Int) < (l.length : Int) := by omega
        have HM := Lib.hid (List.getElem_mem hlt)
        have HT := Lib.hid (take_next hlt)
        have HK := Lib.hid (show ∀ j (hj : j < k), l[j]'(by omega) ∈ l.take k from fun j hj => List.mem_take_iff_getElem.2 ⟨j, by omega, rfl⟩)
        have HU := Lib.hid (show ∀ j (hj : j < k), Uniq l → (l[j]'(by omega)).1 ≠ l[k].1 from fun j hj hu => List.pairwise_iff_getElem.1 hu j k (by omega) hlt hj)
        clear d0 d1
        generalize hx : l[k] = x at *
        obtain ⟨x1, x2⟩ := x
        simp only at c2 c3
        by_cases n0 : x1.size = 0
        · have HF := Lib.hid (HC.out.1 (fun r => (r.1 _ HM.out).1 n0))
          obtain rfl := str_nil0 n0
          clear n0
          go_wp2_with fail
          go_ret
          exact ⟨eqb HF.out, hbel⟩
        · have e0 := str_nil n0
          by_cases n1 : bytes < x1.size
          · have n1' : (bytes : Int) < (x1.size : Int) := by omega
            have HF := Lib.hid (HC.out.1 (fun r => by have := (r.1 _ HM.out).2.1; simp only at this; omega))
            clear n0 n1
            go_wp2_with fail
            go_ret
            exact ⟨eqb HF.out, hbel⟩
          · have n1' : ¬ (bytes : Int) < (x1.size : Int) := by omega
            by_cases n2 : bytes < x2.size
            · have n2' : (bytes : Int) < (x2.size : Int) := by omega
              have HF := Lib.hid (HC.out.1 (fun r => by have := (r.1 _ HM.out).2.2; simp only at this; omega))
              clear n0 n1 n2
              go_wp2_with fail
              go_ret
              exact ⟨eqb HF.out, hbel⟩
            · have n2' : ¬ (bytes : Int) < (x2.size : Int) := by omega
              have HX := Lib.hid (show x1.size ≠ 0 ∧ x1.size ≤ bytes ∧ x2.size ≤ bytes from ⟨n0, by omega, by omega⟩)
              clear n0 n1 n2
              go_wp2_with fail
              go_loopw [8] (fun jv wr => ∃ j : Nat, j ≤ k ∧ jv = .int .i64 j ∧ Hid (∀ i (hi : i < j) (hik : i < l.length), l[i].1 ≠ x1) ∧ Below w.heap.size w wr) (fun jv _ => k - (intOf jv).toNat)
              case atStart => exact ⟨0, Nat.zero_le _, rfl, Lib.hid (fun i hi => absurd hi (by omega)), hbel⟩
              case round => as_aux_lemma =>
                clear hbel c2 c3
                obtain ⟨j, hj, rfl, hne, hbel⟩ := hrel
                by_cases hjl : j < k
                · obtain ⟨d0, d1⟩ := hcc k hlt
                  have c2 := (hbel.cell (p := ⟨b, off + k * 2, none⟩) hbB).trans d0
                  obtain ⟨e0', e1'⟩ := hcc j (by omega)
                  have c4 := (hbel.cell (p := ⟨b, off + j * 2, none⟩) hbB).trans e0'
                  rw [hx] at c2
                  simp only at c2
                  have j0 : (0 : Int) ≤ (j : Int) := by omega
                  have j1 : (j : Int) < (l.length : Int) := by omega
                  have j2 : (j : Int) < (k : Int) := by omega
                  have HUj := Lib.hid (HU.out j hjl)
                  have hjlen : j < l.length := by omega
                  have HNj := Lib.hid (show l[j].1 ≠ x1 → ∀ i (hi : i < j + 1) (hik : i < l.length), l[i].1 ≠ x1 from fun hn i hi hik => by
                    by_cases e : i = j
                    · subst e; exact hn
                    · exact hne.out i (by omega) hik)
                  clear d0 d1 e0' e1' hcc
                  generalize l[j] = y at *
                  obtain ⟨y1, y2⟩ := y
                  simp only at c4
                  by_cases heq : y1 = x1
                  · have HF := Lib.hid (HC.out.1 (fun r => HUj.out r.2 heq))
                    subst heq
                    go_wp2_with fail
                    go_quiet (fail)
                    go_wp2_with fail
                    go_ret
                    exact ⟨eqb HF.out, below_drewN hbel nq⟩
                  · have heq' := str_ne heq
                    have HF := Lib.hid (HNj.out heq)
                    clear heq
                    go_wp2_with fail
                    go_quiet (fail)
                    go_wp2_with fail
                    go_roundw
                    case rel => exact ⟨j + 1, by omega, by simp, HF, below_drewN hbel nq⟩
                    case measure => simp [intOf]; omega
                · obtain rfl : j = k := by omega
                  go_wp2_with fail
                  go_roundw
                  case rel =>
                    refine ⟨j + 1, by omega, by simp, Lib.hid ?_, hbel⟩
                    rw [HT.out]
                    refine ⟨fun z hz => ?_, Uniq.snoc hall.out.2 (fun y hy => ?_)⟩
                    · rcases List.mem_append.1 hz with hz | hz
                      · exact hall.out.1 z hz
                      · simp at hz; subst hz; exact HX.out
                    · obtain ⟨i, hi, rfl⟩ := List.mem_take_iff_getElem.1 hy
                      exact hne.out i (by omega) (by omega)
                  case measure => simp [intOf]; omega
      · obtain rfl : k = l.length := by omega
        have := hall.out
        rw [List.take_length] at this
        have HF := Lib.hid (HC.out.2 this)
        clear this
        go_wp2_with fail
        go_ret
        exact ⟨eqb HF.out, hbel⟩

set_option maxRecDepth 100000 in
theorem labels_any (v : Value) (l : List Lb) (c : Bool) (w : World) (h : Ls w v l) (hc : c = true ↔ Right 12 600 l) :
    Calls Tryz.prog 12 #[v] w fun e w' => e = .returned (.bool c) ∧ Below w.heap.size w w' := by
  have hR : Calls Tryz.prog 39 #[v, .int .i64 12, .int .i64 600] w fun e w' => e = .returned (.bool c) ∧ Below w.heap.size w w' := right_any v l 12 600 c w h hc (by omega) (by omega)
  obtain ⟨ao, cap, rfl, h1, h2⟩ := h.form
  clear hc
  go_enter Tryz.func12, Tryz.ntmps12
  go_wp2_with ((with_reducible refine hR.mono ?_); rintro e w1 ⟨rfl, hb1⟩)
  go_ret
  exact ⟨rfl, hb1⟩
/-- where a name stands: its first place, or -1 -/
def findI (l : List Lb) (n : ByteArray) : Int := match l.findIdx? (fun x => decide (x.1 = n)) with | some k => k | none => -1
theorem findI_look (l : List Lb) (n : ByteArray) : (∃ k, ∃ hk : k < l.length, findI l n = k ∧ look l n = some l[k].2) ∨ (findI l n = -1 ∧ look l n = none) := by
  unfold findI look
  cases h : l.findIdx? (fun x => decide (x.1 = n)) with
  | none =>
    right
    rw [List.findIdx?_eq_none_iff] at h
    refine ⟨rfl, ?_⟩
    rw [List.find?_eq_none.2]; · rfl
    intro x hx; simpa using h x hx
  | some k =>
    left
    obtain ⟨hk, h1, h2⟩ := List.findIdx?_eq_some_iff_getElem.1 h
    refine ⟨k, hk, rfl, ?_⟩
    have e : l.find? (fun x => decide (x.1 = n)) = some l[k] := List.find?_eq_some_iff_getElem.2 ⟨h1, k, hk, rfl, fun j hj => by simpa using h2 j hj⟩
    rw [e]
    rfl
set_option maxRecDepth 100000 in
set_option maxHeartbeats 2000000 in
theorem find_any (v : Value) (l : List Lb) (n : ByteArray) (w : World) (h : Ls w v l) (hl : l.length ≤ 1000000) :
    Calls Tryz.prog 20 #[v, .string n] w fun e w' => e = .returned (.int .i64 (findI l n)) ∧ w = w' := by
  obtain ⟨ao, cap, rfl, h1, h2⟩ := h.form
  go_enter Tryz.func20, Tryz.ntmps20
  go_wp2_with fail
  go_loopw [5] (fun i wr => ∃ k : Nat, k ≤ l.length ∧ i = .int .i64 k ∧ Hid (∀ j (hj : j < k) (hjl : j < l.length), l[j].1 ≠ n) ∧ w = wr) (fun i _ => l.length - (intOf i).toNat)
  case atStart => exact ⟨0, Nat.zero_le _, rfl, Lib.hid (fun j hj => absurd hj (by omega)), rfl⟩
  case round => as_aux_lemma =>
    obtain ⟨k, hk, rfl, hne, rfl⟩ := hrel
    by_cases hlt : k < l.length
    · obtain ⟨b, off, rfl, hbB, hcc⟩ := h.at_ (by omega)
      obtain ⟨d0, d1⟩ := hcc k hlt
      have i0' : (0 : Int) ≤ (k : Int) := by omega
      have i1 : (k : Int) < (l.length : Int) := by omega
      have HF := Lib.hid (show l[k].1 = n → findI l n = k from fun e => by
        unfold findI
        rw [List.findIdx?_eq_some_iff_getElem.2 ⟨hlt, by simpa using e, fun j hj => by simpa using hne.out j hj (by omega)⟩])
      have HN := Lib.hid (show l[k].1 ≠ n → ∀ j (hj : j < k + 1) (hjl : j < l.length), l[j].1 ≠ n from fun e j hj hjl => by
        by_cases c : j = k
        · subst c; exact e
        · exact hne.out j (by omega) hjl)
      clear hcc hne d1
      generalize l[k] = x at *
      by_cases e : x.1 = n
      · have HG := Lib.hid (HF.out e)
        have ee : (x.1.toList == n.toList) = true := by rw [e]; simp
        clear e
        go_wp2_with fail
        go_ret
        rw [HG.out]
        exact ⟨rfl, rfl⟩
      · have HG := Lib.hid (HN.out e)
        have e' := str_ne e
        clear e
        go_wp2_with fail
        go_roundw
        case rel => exact ⟨k + 1, by omega, by simp, HG, trivial⟩
        case measure => simp [intOf]; omega
    · obtain rfl : k = l.length := by omega
      have HF := Lib.hid (show findI l n = -1 by
        unfold findI
        rw [List.findIdx?_eq_none_iff.2 (fun x hx => by
          obtain ⟨j, hj, rfl⟩ := List.getElem_of_mem hx
          simpa using hne.out j hj hj)])
      go_wp2_with fail
      go_ret
      rw [HF.out]
      exact ⟨rfl, rfl⟩
set_option maxRecDepth 100000 in
set_option maxHeartbeats 2000000 in
theorem valueOf_any (v : Value) (l : List Lb) (n : ByteArray) (w : World) (h : Ls w v l) (hl : l.length ≤ 1000000) :
    Calls Tryz.prog 15 #[v, .string n] w fun e w' => e = .returned (.string ((look l n).getD ⟨#[]⟩)) ∧ w = w' := by
  have hF := find_any v l n w h hl
  obtain ⟨ao, cap, rfl, h1, h2⟩ := h.form
  rcases findI_look l n with ⟨k, hk, e1, e2⟩ | ⟨e1, e2⟩
  · rw [e1] at hF
    obtain ⟨b, off, rfl, hbB, hcc⟩ := h.at_ (by omega)
    obtain ⟨d0, d1⟩ := hcc k hk
    have i0' : (0 : Int) ≤ (k : Int) := by omega
    have i1 : (k : Int) < (l.length : Int) := by omega
    have E2 := Lib.hid e2
    clear e2 e1 hcc d0
    generalize l[k] = x at *
    go_enter Tryz.func15, Tryz.ntmps15
    go_wp2_with ((with_reducible refine hF.mono ?_); rintro e w1 ⟨rfl, rfl⟩)
    go_ret
    rw [E2.out]
    exact ⟨rfl, rfl⟩
  · rw [e1] at hF
    have E2 := Lib.hid e2
    clear e2 e1
    go_enter Tryz.func15, Tryz.ntmps15
    go_wp2_with ((with_reducible refine hF.mono ?_); rintro e w1 ⟨rfl, rfl⟩)
    go_ret
    rw [E2.out]
    exact ⟨rfl, rfl⟩
end Go.Proofs.YtapoodnjkkhggaaGreat
