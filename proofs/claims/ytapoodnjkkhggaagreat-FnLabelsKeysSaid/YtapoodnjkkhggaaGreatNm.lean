/-
  Slices of strings: zzFits13, NamesRight, Rising, Among.
-/
import Derived.Test.YtapoodnjkkhggaaGreatSpR
import Derived.BigQuiet
namespace Go.Proofs.YtapoodnjkkhggaaGreat
set_option linter.unusedSimpArgs false
set_option linter.unusedVariables false
open Go.RowKit

/-- a slice of strings -/
def Strs (w : World) (v : Value) (l : List ByteArray) : Prop := Sl w w.heap.size 1 v l.length fun i => .string (l.getD i ByteArray.empty)
theorem Strs.up {w w' : World} {v : Value} {l : List ByteArray} (h : Strs w v l) (hb : Below w.heap.size w w') : Strs w' v l := Sl.up h hb
theorem Strs.form {w : World} {v : Value} {l : List ByteArray} (h : Strs w v l) : ∃ ao cap, v = .slice ao l.length cap ∧ l.length ≤ cap ∧ cap ≤ maxLen := Sl.form h
theorem Strs.at_ {w : World} {ao : Option Addr} {n cap : Nat} {l : List ByteArray} (h : Strs w (.slice ao n cap) l) (hn : 0 < l.length) :
    ∃ b off, ao = some ⟨b, off, none⟩ ∧ b < w.heap.size ∧ ∀ i (hi : i < l.length), w.cell? ⟨b, off + i, none⟩ = some (.string l[i]) := by
  obtain ⟨b, off, h1, h2, h2', h3⟩ := Sl.at_ h hn
  exact ⟨b, off, h1, h2, fun i hi => by rw [h3 i (by omega)]; simp [hi]⟩

def strB (s : ByteArray) : Bool := decide (s.size ≤ 2147483647)
set_option maxRecDepth 100000 in
set_option maxHeartbeats 2000000 in
theorem fits13_any (v : Value) (l : List ByteArray) (c : Bool) (w : World) (h : Strs w v l) (hc : (decide (l.length ≤ 2147483647) && l.all strB) = c) :
    Calls Tryz.prog 17 #[v] w fun e w' => e = .returned (.bool c) ∧ Below w.heap.size w w' := by
  obtain ⟨ao, cap, rfl, h1, h2⟩ := h.form
  by_cases c1 : 2147483647 < l.length
  · have c1' : (2147483647 : Int) < (l.length : Int) := by omega
    have HC := Lib.hid (show false = c by rw [← hc, decide_eq_false (by omega)]; rfl)
    clear hc
    go_enter Tryz.func17, Tryz.ntmps17
    go_wp2_with fail
    go_ret
    exact ⟨eqb HC.out, Below.refl _ _⟩
  · have c1' : ¬ (2147483647 : Int) < (l.length : Int) := by omega
    have HC := Lib.hid (show l.all strB = c by rw [← hc, decide_eq_true (show l.length ≤ 2147483647 by omega)]; simp)
    clear hc
    go_enter Tryz.func17, Tryz.ntmps17
    go_wp2_with fail
    go_loopw [10] (fun i wr => ∃ k : Nat, k ≤ l.length ∧ i = .int .i64 k ∧ Hid ((l.take k).all strB = true) ∧ Below w.heap.size w wr) (fun i _ => l.length - (intOf i).toNat)
    case atStart => exact ⟨0, Nat.zero_le _, rfl, Lib.hid (by simp), Below.refl _ _⟩
    case round => as_aux_lemma =>
      obtain ⟨k, hk, rfl, hall, hbel⟩ := hrel
      by_cases hlt : k < l.length
      · obtain ⟨b, off, rfl, hbB, hcc⟩ := h.at_ (by omega)
        have c2 := (hbel.cell (p := ⟨b, off + k, none⟩) hbB).trans (hcc k hlt)
        clear hcc
        have i0' : (0 : Int) ≤ (k : Int) := by omega
        have i1 : (k : Int) < (l.length : Int) := by omega
        have HA := Lib.hid (show (l.take (k + 1)).all strB = ((l.take k).all strB && strB l[k]) by rw [take_next hlt, List.all_append]; simp)
        have HM := Lib.hid (List.getElem_mem hlt)
        generalize l[k] = x at *
        by_cases q : 2147483647 < x.size
        · have q' : (2147483647 : Int) < (x.size : Int) := by omega
          go_wp2_with fail
          go_ret
          exact ⟨eqb (by rw [← HC.out]; symm; rw [List.all_eq_false]; exact ⟨_, HM.out, by simp [strB]; omega⟩), hbel⟩
        · have q' : ¬ (2147483647 : Int) < (x.size : Int) := by omega
          have HX := Lib.hid (show strB x = true by simp [strB]; omega)
          go_wp2_with fail
          go_roundw
          case rel => exact ⟨k + 1, by omega, by simp, Lib.hid (by rw [HA.out, hall.out, HX.out]; rfl), hbel⟩
          case measure => simp [intOf]; omega
      · obtain rfl : k = l.length := by omega
        go_wp2_with fail
        go_ret
        have := hall.out
        rw [List.take_length] at this
        exact ⟨eqb (by rw [← HC.out, this]), hbel⟩

/-- names are few and short -/
def nmB (bytes : Nat) (s : ByteArray) : Bool := decide (s.size ≤ bytes)
set_option maxRecDepth 100000 in
set_option maxHeartbeats 2000000 in
theorem namesRight_any (v : Value) (l : List ByteArray) (most bytes : Nat) (c : Bool) (w : World) (h : Strs w v l) (hc : (decide (l.length ≤ most) && l.all (nmB bytes)) = c) (hm : most < 1000000) (hb : bytes < 1000000) :
    Calls Tryz.prog 18 #[v, .int .i64 most, .int .i64 bytes] w fun e w' => e = .returned (.bool c) ∧ w = w' := by
  obtain ⟨ao, cap, rfl, h1, h2⟩ := h.form
  by_cases c1 : most < l.length
  · have c1' : (most : Int) < (l.length : Int) := by omega
    have HC := Lib.hid (show false = c by rw [← hc, decide_eq_false (by omega)]; rfl)
    clear hc
    go_enter Tryz.func18, Tryz.ntmps18
    go_wp2_with fail
    go_ret
    exact ⟨eqb HC.out, rfl⟩
  · have c1' : ¬ (most : Int) < (l.length : Int) := by omega
    have HC := Lib.hid (show l.all (nmB bytes) = c by rw [← hc, decide_eq_true (show l.length ≤ most by omega)]; simp)
    clear hc
    go_enter Tryz.func18, Tryz.ntmps18
    go_wp2_with fail
    go_loopw [7] (fun i wr => ∃ k : Nat, k ≤ l.length ∧ i = .int .i64 k ∧ Hid ((l.take k).all (nmB bytes) = true) ∧ w = wr) (fun i _ => l.length - (intOf i).toNat)
    case atStart => exact ⟨0, Nat.zero_le _, rfl, Lib.hid (by simp), rfl⟩
    case round => as_aux_lemma =>
      obtain ⟨k, hk, rfl, hall, rfl⟩ := hrel
      by_cases hlt : k < l.length
      · obtain ⟨b, off, rfl, hbB, hcc⟩ := h.at_ (by omega)
        have c2 := hcc k hlt
        clear hcc
        have i0' : (0 : Int) ≤ (k : Int) := by omega
        have i1 : (k : Int) < (l.length : Int) := by omega
        have HA := Lib.hid (show (l.take (k + 1)).all (nmB bytes) = ((l.take k).all (nmB bytes) && nmB bytes l[k]) by rw [take_next hlt, List.all_append]; simp)
        have HM := Lib.hid (List.getElem_mem hlt)
        generalize l[k] = x at *
        by_cases q : bytes < x.size
        · have q' : (bytes : Int) < (x.size : Int) := by omega
          go_wp2_with fail
          go_ret
          exact ⟨eqb (by rw [← HC.out]; symm; rw [List.all_eq_false]; exact ⟨_, HM.out, by simp [nmB]; omega⟩), rfl⟩
        · have q' : ¬ (bytes : Int) < (x.size : Int) := by omega
          have HX := Lib.hid (show nmB bytes x = true by simp [nmB]; omega)
          go_wp2_with fail
          go_roundw
          case rel => exact ⟨k + 1, by omega, by simp, Lib.hid (by rw [HA.out, hall.out, HX.out]; rfl), trivial⟩
          case measure => simp [intOf]; omega
      · obtain rfl : k = l.length := by omega
        go_wp2_with fail
        go_ret
        have := hall.out
        rw [List.take_length] at this
        exact ⟨eqb (by rw [← HC.out, this]), rfl⟩
/-- names rise -/
def Rise (l : List ByteArray) : Prop := ∀ i (h : i + 1 < l.length), lt l[i] l[i + 1] = true
set_option maxRecDepth 100000 in
set_option maxHeartbeats 2000000 in
theorem rising_any (v : Value) (l : List ByteArray) (c : Bool) (w : World) (h : Strs w v l) (hc : c = true ↔ Rise l) (hl : l.length ≤ 1000000) :
    Calls Tryz.prog 19 #[v] w fun e w' => e = .returned (.bool c) ∧ Below w.heap.size w w' := by
  obtain ⟨ao, cap, rfl, h1, h2⟩ := h.form
  go_enter Tryz.func19, Tryz.ntmps19
  go_wp2_with fail
  go_loopw [3] (fun i wr => ∃ k : Nat, i = .int .i64 (k + 1 : Nat) ∧ k ≤ l.length ∧ Hid (∀ i (h : i + 1 < l.length), i < k → lt l[i] l[i + 1] = true) ∧ Below w.heap.size w wr) (fun i _ => l.length + 1 - (intOf i).toNat)
  case atStart => exact ⟨0, rfl, Nat.zero_le _, Lib.hid (fun i _ hi => absurd hi (by omega)), Below.refl _ _⟩
  case round => as_aux_lemma =>
    obtain ⟨k, rfl, hk, hall, hbel⟩ := hrel
    by_cases hlt : k + 1 < l.length
    · obtain ⟨b, off, rfl, hbB, hcc⟩ := h.at_ (by omega)
      have c2 := (hbel.cell (p := ⟨b, off + k, none⟩) hbB).trans (hcc k (by omega))
      have c3 := (hbel.cell (p := ⟨b, off + (k + 1), none⟩) hbB).trans (hcc (k + 1) hlt)
      clear hcc
      have i1 : ((k + 1 : Nat) : Int) < (l.length : Int) := by omega
      have HA := Lib.hid (show lt l[k] l[k + 1] = true → ∀ i (h : i + 1 < l.length), i < k + 1 → lt l[i] l[i + 1] = true from fun e i h hi => by
        by_cases e' : i = k
        · subst e'; exact e
        · exact hall.out i h (by omega))
      have HF := Lib.hid (show lt l[k] l[k + 1] = false → false = c from fun e => not_of hc (fun R => by rw [R k hlt] at e; cases e))
      have e1 : ((k + 1 : Nat) : Int) - 1 = (k : Int) := by omega
      have i2 : (0 : Int) ≤ (k : Int) := by omega
      have i3 : (k : Int) < (l.length : Int) := by omega
      have i4 : (0 : Int) ≤ ((k + 1 : Nat) : Int) := by omega
      have e2 : IntKind.i64.wrap (((k + 1 : Nat) : Int) - 1) = (k : Int) := by rw [e1]; exact IntWalk.i64_in _ (by omega)
      have e3 : ((k + 1 : Nat) : Int).toNat = k + 1 := by omega
      generalize l[k] = x at *
      generalize l[k + 1] = y at *
      generalize hK : ((k + 1 : Nat) : Int) = K at *
      cases q : lt x y
      · have q' : Op.bytesLess x.toList y.toList = false := q
        have HG := Lib.hid (HF.out q)
        clear q
        go_wp2_with fail
        go_quiet (fail)
        go_wp2_with fail
        go_ret
        exact ⟨eqb HG.out, below_drewN hbel nq⟩
      · have q' : Op.bytesLess x.toList y.toList = true := q
        have HG := Lib.hid (HA.out q)
        clear q
        go_wp2_with fail
        go_quiet (fail)
        go_wp2_with fail
        go_roundw
        case rel => exact ⟨k + 1, by subst hK; simp, by omega, HG, below_drewN hbel nq⟩
        case measure => subst hK; simp [intOf]; omega
    · have HF := Lib.hid (show true = c from ((hc.2 (fun i h => hall.out i h (by omega))).symm))
      have i1 : ¬ ((k + 1 : Nat) : Int) < (l.length : Int) := by omega
      go_wp2_with fail
      go_ret
      exact ⟨eqb HF.out, hbel⟩
/-- a name is one of some -/
def amg (l : List ByteArray) (n : ByteArray) : Bool := l.any fun s => decide (s = n)
set_option maxRecDepth 100000 in
set_option maxHeartbeats 2000000 in
theorem among_any (v : Value) (l : List ByteArray) (n : ByteArray) (w : World) (h : Strs w v l) (hl : l.length ≤ 1000000) :
    Calls Tryz.prog 21 #[v, .string n] w fun e w' => e = .returned (.bool (amg l n)) ∧ w = w' := by
  obtain ⟨ao, cap, rfl, h1, h2⟩ := h.form
  go_enter Tryz.func21, Tryz.ntmps21
  go_wp2_with fail
  go_loopw [5] (fun i wr => ∃ k : Nat, k ≤ l.length ∧ i = .int .i64 k ∧ Hid (amg (l.take k) n = false) ∧ w = wr) (fun i _ => l.length - (intOf i).toNat)
  case atStart => exact ⟨0, Nat.zero_le _, rfl, Lib.hid rfl, rfl⟩
  case round => as_aux_lemma =>
    obtain ⟨k, hk, rfl, hne, rfl⟩ := hrel
    by_cases hlt : k < l.length
    · obtain ⟨b, off, rfl, hbB, hcc⟩ := h.at_ (by omega)
      have d0 := hcc k hlt
      have i0' : (0 : Int) ≤ (k : Int) := by omega
      have i1 : (k : Int) < (l.length : Int) := by omega
      have HF := Lib.hid (show l[k] = n → true = amg l n from fun e => by
        symm; unfold amg; rw [List.any_eq_true]; exact ⟨_, List.getElem_mem hlt, by simpa using e⟩)
      have HN := Lib.hid (show l[k] ≠ n → amg (l.take (k + 1)) n = false from fun e => by
        have := hne.out
        unfold amg at *
        rw [take_next hlt, List.any_append, this]
        simpa using e)
      clear hcc hne
      generalize l[k] = x at *
      by_cases e : x = n
      · have HG := Lib.hid (HF.out e)
        have ee : (x.toList == n.toList) = true := by rw [e]; simp
        clear e
        go_wp2_with fail
        go_ret
        exact ⟨eqb HG.out, rfl⟩
      · have HG := Lib.hid (HN.out e)
        have e' := str_ne e
        clear e
        go_wp2_with fail
        go_roundw
        case rel => exact ⟨k + 1, by omega, by simp, HG, trivial⟩
        case measure => simp [intOf]; omega
    · obtain rfl : k = l.length := by omega
      have HF := Lib.hid (show false = amg l n by have := hne.out; rw [List.take_length] at this; exact this.symm)
      go_wp2_with fail
      go_ret
      exact ⟨eqb HF.out, rfl⟩
end Go.Proofs.YtapoodnjkkhggaaGreat
