/-
  Slices of strings: zzFits13, SameWords.
-/
import Derived.Test.YtfllcbcokncgpaaGreatDoorAwake
namespace Go.Proofs.YtfllcbcokncgpaaGreatDoor
set_option linter.unusedSimpArgs false
set_option linter.unusedVariables false
open Go.RowKit

/-- a slice of strings -/
def Strs (w : World) (v : Value) (l : List ByteArray) : Prop := Sl w w.heap.size 1 v l.length fun i => .string (l.getD i ByteArray.empty)
theorem Strs.up {w w' : World} {v : Value} {l : List ByteArray} (h : Strs w v l) (hb : Below w.heap.size w w') : Strs w' v l := Sl.up h hb
theorem Strs.form {w : World} {v : Value} {l : List ByteArray} (h : Strs w v l) : ∃ ao cap, v = .slice ao l.length cap ∧ l.length ≤ cap ∧ cap ≤ maxLen := Sl.form h
theorem Strs.at_ {w : World} {ao : Option Addr} {n cap : Nat} {l : List ByteArray} (h : Strs w (.slice ao n cap) l) (hn : 0 < l.length) :
    ∃ b off, ao = some ⟨b, off, none⟩ ∧ b < w.heap.size ∧ ∀ i (hi : i < l.length), w.cell? ⟨b, off + i, none⟩ = some (.string l[i]) := by
  obtain ⟨b, off, h1, h2, h2', h3⟩ := Sl.at_ h hn
  exact ⟨b, off, h1, h2, fun i hi => by rw [h3 i (by omega)]; simp [hi]⟩

def strB (s : ByteArray) : Bool := decide (s.size ≤ 2147483647)
set_option maxRecDepth 100000 in
set_option maxHeartbeats 2000000 in
theorem fits13_any (v : Value) (l : List ByteArray) (c : Bool) (w : World) (h : Strs w v l) (hc : (decide (l.length ≤ 2147483647) && l.all strB) = c) :
    Calls Tryz.prog 18 #[v] w fun e w' => e = .returned (.bool c) ∧ Below w.heap.size w w' := by
  obtain ⟨ao, cap, rfl, h1, h2⟩ := h.form
  by_cases c1 : 2147483647 < l.length
  · have c1' : (2147483647 : Int) < (l.length : Int) := by omega
    have HC := Lib.hid (show false = c by rw [← hc, decide_eq_false (by omega)]; rfl)
    clear hc
    go_enter Tryz.func18, Tryz.ntmps18
    go_wp2_with fail
    go_ret
    exact ⟨eqb HC.out, Below.refl _ _⟩
  · have c1' : ¬ (2147483647 : Int) < (l.length : Int) := by omega
    have HC := Lib.hid (show l.all strB = c by rw [← hc, decide_eq_true (show l.length ≤ 2147483647 by omega)]; simp)
    clear hc
    go_enter Tryz.func18, Tryz.ntmps18
    go_wp2_with fail
    go_loopw [10] (fun i wr => ∃ k : Nat, k ≤ l.length ∧ i = .int .i64 k ∧ Hid ((l.take k).all strB = true) ∧ Below w.heap.size w wr) (fun i _ => l.length - (intOf i).toNat)
    case atStart => exact ⟨0, Nat.zero_le _, rfl, Lib.hid (by simp), Below.refl _ _⟩
    case round => as_aux_lemma =>
      obtain ⟨k, hk, rfl, hall, hbel⟩ := hrel
      by_cases hlt : k < l.length
      · obtain ⟨b, off, rfl, hbB, hcc⟩ := h.at_ (by omega)
        have c2 := (hbel.cell (p := ⟨b, off + k, none⟩) hbB).trans (hcc k hlt)
        clear hcc
        have i0' : (0 : Int) ≤ (k : Int) := by omega
        have i1 : (k : Int) < (l.length : Int) := by omega
        have HA := Lib.hid (show (l.take (k + 1)).all strB = ((l.take k).all strB && strB l[k]) by rw [take_next hlt, List.all_append]; simp)
        have HM := Lib.hid (List.getElem_mem hlt)
        generalize l[k] = x at *
        by_cases q : 2147483647 < x.size
        · have q' : (2147483647 : Int) < (x.size : Int) := by omega
          go_wp2_with fail
          go_ret
          exact ⟨eqb (by rw [← HC.out]; symm; rw [List.all_eq_false]; exact ⟨_, HM.out, by simp [strB]; omega⟩), hbel⟩
        · have q' : ¬ (2147483647 : Int) < (x.size : Int) := by omega
          have HX := Lib.hid (show strB x = true by simp [strB]; omega)
          go_wp2_with fail
          go_roundw
          case rel => exact ⟨k + 1, by omega, by simp, Lib.hid (by rw [HA.out, hall.out, HX.out]; rfl), hbel⟩
          case measure => simp [intOf]; omega
      · obtain rfl : k = l.length := by omega
        go_wp2_with fail
        go_ret
        have := hall.out
        rw [List.take_length] at this
        exact ⟨eqb (by rw [← HC.out, this]), hbel⟩

set_option maxRecDepth 100000 in
set_option maxHeartbeats 4000000 in
theorem sameWords_eq (va vb : Value) (l : List ByteArray) (w : World) (ha : Strs w va l) (hb : Strs w vb l) (hl : l.length ≤ 2147483646) :
    Calls Tryz.prog 19 #[va, vb] w fun e w' => e = .returned (.bool true) ∧ Below w.heap.size w w' := by
  obtain ⟨ao, cap, rfl, h1, h2⟩ := ha.form
  obtain ⟨bo, bcap, rfl, g1, g2⟩ := hb.form
  go_enter Tryz.func19, Tryz.ntmps19
  go_wp2_with fail
  go_loopw [5] (fun i wr => ∃ k : Nat, k ≤ l.length ∧ i = .int .i64 k ∧ Below w.heap.size w wr) (fun i _ => l.length - (intOf i).toNat)
  case atStart => exact ⟨0, Nat.zero_le _, rfl, Below.refl _ _⟩
  case round => as_aux_lemma =>
    obtain ⟨k, hk, rfl, hbel⟩ := hrel
    by_cases hlt : k < l.length
    · obtain ⟨x, xo, rfl, hx1, hxc⟩ := ha.at_ (by omega)
      obtain ⟨y, yo, rfl, hy1, hyc⟩ := hb.at_ (by omega)
      have c0 := (hbel.cell (p := ⟨x, xo + k, none⟩) hx1).trans (hxc k hlt)
      have c3 := (hbel.cell (p := ⟨y, yo + k, none⟩) hy1).trans (hyc k hlt)
      clear hxc hyc ha hb
      generalize l[k] = q at *
      have i0 : (0 : Int) ≤ (k : Int) := by omega
      have i1 : (k : Int) < (l.length : Int) := by omega
      go_wp2_with fail
      go_quiet (fail)
      go_wp2_with fail
      go_roundw
      case rel => exact ⟨k + 1, by omega, by simp, below_drewN hbel nq⟩
      case measure => simp [intOf]; omega
    · obtain rfl : k = l.length := by omega
      go_wp2_with fail
      go_ret
      exact ⟨rfl, hbel⟩
end Go.Proofs.YtfllcbcokncgpaaGreatDoor
