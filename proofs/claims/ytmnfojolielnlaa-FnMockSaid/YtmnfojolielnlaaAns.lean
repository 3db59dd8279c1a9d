/-
  Lists of answers: where they lie; equal ones are told to be the same.
-/
import Derived.Test.YtmnfojolielnlaaMock1
import Derived.BigQuiet
namespace Go.Proofs.Ytmnfojolielnlaa
set_option linter.unusedSimpArgs false
set_option linter.unusedVariables false
open Go.RowKit

theorem below_drewN {B : Nat} {a w : World} (h : Below B a w) (q : Nat) : Below B a (w.drewN q) := ⟨h.os, h.tape, h.output, h.size, h.block⟩

/-- an answer: the kind of value, the timestamp, the bits -/
abbrev Ans := Int × Int × Int
def flat3 (l : List Ans) : List Value := l.flatMap fun x => [.int .i64 x.1, .int .i64 x.2.1, .int .u64 x.2.2]
theorem length_flat3 (l : List Ans) : (flat3 l).length = l.length * 3 := by
  induction l with
  | nil => rfl
  | cons x l ih => simp only [flat3, List.flatMap_cons, List.length_append, List.length_cons, List.length_nil] at *; omega
theorem flat3_append (l m : List Ans) : flat3 (l ++ m) = flat3 l ++ flat3 m := by simp [flat3]
theorem flat3_cons (x : Ans) (l : List Ans) : flat3 (x :: l) = [.int .i64 x.1, .int .i64 x.2.1, .int .u64 x.2.2] ++ flat3 l := rfl
theorem getD_flat3 : ∀ (l : List Ans) (i : Nat) (h : i < l.length), (flat3 l).getD (i * 3) undef = .int .i64 l[i].1 ∧ (flat3 l).getD (i * 3 + 1) undef = .int .i64 l[i].2.1 ∧ (flat3 l).getD (i * 3 + 2) undef = .int .u64 l[i].2.2
  | x :: l, 0, _ => ⟨rfl, rfl, rfl⟩
  | x :: l, i + 1, h => by
    have := getD_flat3 l i (by simpa using h)
    have e : (i + 1) * 3 = i * 3 + 1 + 1 + 1 := by omega
    rw [flat3_cons, e]
    exact this

/-- a slice of answers -/
def Answers (w : World) (B : Nat) (v : Value) (l : List Ans) : Prop := Sl w B 3 v l.length fun i => (flat3 l).getD i undef
theorem Answers.below {w w' : World} {B B' : Nat} {v : Value} {l : List Ans} (h : Answers w B v l) (hb : Below B' w w') (hB : B ≤ B') : Answers w' B v l := Sl.below h hb hB
theorem Answers.form {w : World} {B : Nat} {v : Value} {l : List Ans} (h : Answers w B v l) : ∃ ao cap, v = .slice ao l.length cap ∧ l.length ≤ cap ∧ cap ≤ maxLen := Sl.form h
theorem Answers.at_ {w : World} {B : Nat} {ao : Option Addr} {n cap : Nat} {l : List Ans} (h : Answers w B (.slice ao n cap) l) (hn : 0 < l.length) :
    ∃ b off, ao = some ⟨b, off, none⟩ ∧ b < B ∧ B ≤ w.heap.size ∧ ∀ i (hi : i < l.length), w.cell? ⟨b, off + i * 3, none⟩ = some (.int .i64 l[i].1) ∧ w.cell? ⟨b, off + i * 3 + 1, none⟩ = some (.int .i64 l[i].2.1) ∧ w.cell? ⟨b, off + i * 3 + 2, none⟩ = some (.int .u64 l[i].2.2) := by
  obtain ⟨b, off, h1, h2, h2', h3⟩ := Sl.at_ h hn
  refine ⟨b, off, h1, h2, h2', fun i hi => ?_⟩
  obtain ⟨g1, g2, g3⟩ := getD_flat3 l i hi
  refine ⟨?_, ?_, ?_⟩
  · rw [h3 (i * 3) (by omega), g1]
  · rw [Nat.add_assoc, h3 (i * 3 + 1) (by omega), g2]
  · rw [Nat.add_assoc, h3 (i * 3 + 2) (by omega), g3]
theorem Answers.own {w : World} {base e : Nat} {v : Value} {n : Nat} {l : List Ans} (h : w.ownsRow base e 3 v n (flat3 l)) : Answers w w.heap.size v l := by
  have hn : l.length = n := by have := h.1; rw [length_flat3] at this; omega
  unfold Answers
  rw [hn]
  exact Sl.own h

set_option maxRecDepth 100000 in
set_option maxHeartbeats 4000000 in
theorem sameAnswers_eq (va vb : Value) (l : List Ans) (B : Nat) (w : World) (hB : B ≤ w.heap.size) (ha : Answers w B va l) (hb : Answers w B vb l) (hl : l.length ≤ 2147483647) :
    Calls Try.prog 6 #[va, vb] w fun e w' => e = .returned (.bool true) ∧ Below w.heap.size w w' := by
  obtain ⟨ao, cap, rfl, h1, h2⟩ := ha.form
  obtain ⟨bo, bcap, rfl, g1, g2⟩ := hb.form
  go_enter Try.func6, Try.ntmps6
  go_wp2
  go_loopw [5] (fun i wr => ∃ k : Nat, k ≤ l.length ∧ i = .int .i64 k ∧ Below w.heap.size w wr) (fun i _ => l.length - (intOf i).toNat)
  case atStart => exact ⟨0, Nat.zero_le _, rfl, Below.refl _ _⟩
  case round =>
    obtain ⟨k, hk, rfl, hbel⟩ := hrel
    by_cases hlt : k < l.length
    · obtain ⟨x, xo, rfl, hx1, hx2, hxc⟩ := ha.at_ (by omega)
      obtain ⟨y, yo, rfl, hy1, hy2, hyc⟩ := hb.at_ (by omega)
      have c0 := (hbel.cell (p := ⟨x, xo + k * 3, none⟩) (show x < w.heap.size by omega)).trans (hxc k hlt).1
      have c1 := (hbel.cell (p := ⟨x, xo + k * 3 + 1, none⟩) (show x < w.heap.size by omega)).trans (hxc k hlt).2.1
      have c2 := (hbel.cell (p := ⟨x, xo + k * 3 + 2, none⟩) (show x < w.heap.size by omega)).trans (hxc k hlt).2.2
      have c3 := (hbel.cell (p := ⟨y, yo + k * 3, none⟩) (show y < w.heap.size by omega)).trans (hyc k hlt).1
      have c4 := (hbel.cell (p := ⟨y, yo + k * 3 + 1, none⟩) (show y < w.heap.size by omega)).trans (hyc k hlt).2.1
      have c5 := (hbel.cell (p := ⟨y, yo + k * 3 + 2, none⟩) (show y < w.heap.size by omega)).trans (hyc k hlt).2.2
      clear hxc hyc ha hb
      generalize l[k] = q at *
      obtain ⟨q0, q1, q2⟩ := q
      have i0 : (0 : Int) ≤ (k : Int) := by omega
      have i1 : (k : Int) < (l.length : Int) := by omega
      by_cases hz : q0 = 0
      · subst hz
        go_wp2_with fail
        go_quiet (fail)
        go_wp2
        go_roundw
        case rel => exact ⟨k + 1, by omega, by simp, below_drewN hbel nq⟩
        case measure => simp [intOf]; omega
      · have hz' : (q0 != 0) = true := by simpa using hz
        go_wp2_with fail
        go_quiet (fail)
        go_wp2
        go_roundw
        case rel => exact ⟨k + 1, by omega, by simp, below_drewN hbel nq⟩
        case measure => simp [intOf]; omega
    · have hkl : k = l.length := by omega
      subst hkl
      go_wp2
      go_ret
      exact ⟨rfl, hbel⟩
end Go.Proofs.Ytmnfojolielnlaa
