/-
  Matchers: a Match, the matcher that it means, what it matches; slices of Matches.
-/
import Derived.Test.YtapoodnjkkhggaaGreatAsk
import Derived.Test.YtapoodnjkkhggaaGreatSpL
namespace Go.Proofs.YtapoodnjkkhggaaGreat
set_option linter.unusedSimpArgs false
set_option linter.unusedVariables false
open Go.RowKit

/-- a match: its type, its name, its value -/
abbrev Mt := Int × ByteArray × ByteArray
def mt0 : Mt := (0, ByteArray.empty, ByteArray.empty)
def mcells (m : Mt) : List Value := [.int .i64 m.1, .string m.2.1, .string m.2.2]
def cellM (l : List Mt) (i : Nat) : Value := (mcells (l.getD (i / 3) mt0)).getD (i % 3) undef
def Ms (w : World) (v : Value) (l : List Mt) : Prop := Sl w w.heap.size 3 v l.length (cellM l)
theorem Ms.up {w w' : World} {v : Value} {l : List Mt} (h : Ms w v l) (hb : Below w.heap.size w w') : Ms w' v l := Sl.up h hb
theorem Ms.form {w : World} {v : Value} {l : List Mt} (h : Ms w v l) : ∃ ao cap, v = .slice ao l.length cap ∧ l.length ≤ cap ∧ cap ≤ maxLen := Sl.form h
theorem Ms.at_ {w : World} {ao : Option Addr} {n cap : Nat} {l : List Mt} (h : Ms w (.slice ao n cap) l) (hn : 0 < l.length) :
    ∃ b off, ao = some ⟨b, off, none⟩ ∧ b < w.heap.size ∧ ∀ i (hi : i < l.length), w.cell? ⟨b, off + i * 3, none⟩ = some (.int .i64 l[i].1) ∧ w.cell? ⟨b, off + i * 3 + 1, none⟩ = some (.string l[i].2.1) ∧ w.cell? ⟨b, off + i * 3 + 2, none⟩ = some (.string l[i].2.2) := by
  obtain ⟨b, off, h1, h2, _, h3⟩ := Sl.at_ h hn
  refine ⟨b, off, h1, h2, fun i hi => ⟨?_, ?_, ?_⟩⟩
  · rw [h3 (i * 3) (by omega)]
    simp [cellM, mcells, hi]
  · rw [Nat.add_assoc, h3 (i * 3 + 1) (by omega)]
    have e1 : (i * 3 + 1) % 3 = 1 := by omega
    have e2 : (i * 3 + 1) / 3 = i := by omega
    simp [cellM, mcells, hi, e1, e2]
  · rw [Nat.add_assoc, h3 (i * 3 + 2) (by omega)]
    have e1 : (i * 3 + 2) % 3 = 2 := by omega
    have e2 : (i * 3 + 2) / 3 = i := by omega
    simp [cellM, mcells, hi, e1, e2]
abbrev IMT : TypeId := 28
abbrev MT : TypeId := 130
/-- whether a match matches a value -/
def mP (m : Mt) (s : ByteArray) : Bool := decide (m.1 = 0) == decide (m.2.2 = s)
set_option maxRecDepth 100000 in
theorem specMatches_any (m : Mt) (s : ByteArray) (w : World) (hm : m.1 = 0 ∨ m.1 = 1) :
    Calls Tryz.prog 14 #[.agg #[.int .i64 m.1, .string m.2.1, .string m.2.2], .string s] w fun e w' => e = .returned (.bool (mP m s)) ∧ Below w.heap.size w w' := by
  obtain ⟨ty, nm, vl⟩ := m
  have hb := below_new w (.cells #[.int .i64 ty, .string nm, .string vl] IMT)
  simp only at hm
  rcases hm with rfl | rfl
  · go_enter Tryz.func14, Tryz.ntmps14
    go_wp2_with fail
    go_ret
    exact ⟨eqb (by unfold mP; simp [toList_beq]), hb⟩
  · go_enter Tryz.func14, Tryz.ntmps14
    go_wp2_with fail
    go_ret
    exact ⟨eqb (by unfold mP; simp [toList_beq]), hb⟩
set_option maxRecDepth 100000 in
theorem newMatcher_any (ty : Int) (nm vl : ByteArray) (w : World) (hm : ty = 0 ∨ ty = 1) :
    Calls Tryz.prog 95 #[.int .i64 ty, .string nm, .string vl] w fun e w' => e = .returned (.tuple #[.pointer (some ⟨w.heap.size, 0, none⟩), .nilIface]) ∧ w' = w.alloc (.cells #[.int .i64 ty, .string nm, .string vl] MT) := by
  rcases hm with rfl | rfl
  · go_enter Tryz.func95, Tryz.ntmps95
    go_wp2_with fail
    go_ret2
    exact ⟨rfl, rfl⟩
  · go_enter Tryz.func95, Tryz.ntmps95
    go_wp2_with fail
    go_ret2
    exact ⟨rfl, rfl⟩
set_option maxRecDepth 100000 in
theorem matcher_any (m : Mt) (w : World) (hm : m.1 = 0 ∨ m.1 = 1) :
    Calls Tryz.prog 43 #[.agg #[.int .i64 m.1, .string m.2.1, .string m.2.2]] w fun e w' => ∃ p, e = .returned (.pointer (some ⟨p, 0, none⟩)) ∧ Blk w' p (mcells m) MT ∧ w.heap.size ≤ p ∧ Below w.heap.size w w' := by
  obtain ⟨ty, nm, vl⟩ := m
  simp only at hm
  have hb := (below_new w (.cells #[.int .i64 ty, .string nm, .string vl] IMT)).alloc (by simp) (.cells #[.int .i64 ty, .string nm, .string vl] MT)
  have hB := Blk.new (w.alloc (.cells #[.int .i64 ty, .string nm, .string vl] IMT)) [.int .i64 ty, .string nm, .string vl] MT
  have hN := newMatcher_any ty nm vl (w.alloc (.cells #[.int .i64 ty, .string nm, .string vl] IMT)) hm
  rw [show (w.alloc (.cells #[.int .i64 ty, .string nm, .string vl] IMT)).heap.size = w.heap.size + 1 by simp] at hB hN
  have hz : w.heap.size ≤ w.heap.size + 1 := Nat.le_succ _
  rcases hm with rfl | rfl
  · go_enter Tryz.func43, Tryz.ntmps43
    go_wp2_with ((with_reducible refine hN.mono ?_); rintro e w1 ⟨rfl, rfl⟩)
    go_ret
    exact ⟨_, rfl, hB, hz, hb⟩
  · go_enter Tryz.func43, Tryz.ntmps43
    go_wp2_with ((with_reducible refine hN.mono ?_); rintro e w1 ⟨rfl, rfl⟩)
    go_ret
    exact ⟨_, rfl, hB, hz, hb⟩
set_option maxRecDepth 100000 in
theorem mMatches_any (m : Mt) (p : Nat) (s : ByteArray) (w : World) (hm : m.1 = 0 ∨ m.1 = 1) (hB : Blk w p (mcells m) MT) :
    Calls Tryz.prog 96 #[.pointer (some ⟨p, 0, none⟩), .string s] w fun e w' => e = .returned (.bool (mP m s)) ∧ w = w' := by
  obtain ⟨ty, nm, vl⟩ := m
  simp only at hm
  have c0 := hB.cell 0
  have c2 := hB.cell 2
  simp only [mcells, List.getElem?_cons_zero, List.getElem?_cons_succ] at c0 c2
  rcases hm with rfl | rfl
  · go_enter Tryz.func96, Tryz.ntmps96
    go_wp2_with fail
    go_ret
    exact ⟨eqb (by unfold mP; rw [toList_beq]; simp [eq_comm]), rfl⟩
  · go_enter Tryz.func96, Tryz.ntmps96
    go_wp2_with fail
    go_ret
    exact ⟨eqb (by unfold mP; rw [toList_beq]; simp [eq_comm]), rfl⟩

def mtB (m : Mt) : Bool := decide (m.2.1.size ≤ 2147483647) && decide (m.2.2.size ≤ 2147483647)
set_option maxRecDepth 100000 in
theorem fits23_any (m : Mt) (w : World) : Calls Tryz.prog 37 #[.agg #[.int .i64 m.1, .string m.2.1, .string m.2.2]] w fun e w' => e = .returned (.bool (mtB m)) ∧ Below w.heap.size w w' := by
  obtain ⟨ty, x1, x2⟩ := m
  have hb := below_new w (.cells #[.int .i64 ty, .string x1, .string x2] IMT)
  by_cases c1 : x1.size ≤ 2147483647
  · have k1 : ¬ (2147483647 : Int) < (x1.size : Int) := by omega
    by_cases c2 : x2.size ≤ 2147483647
    · have k2 : ¬ (2147483647 : Int) < (x2.size : Int) := by omega
      have HC := Lib.hid (show true = mtB (ty, x1, x2) by simp [mtB, c1, c2])
      clear c1 c2
      go_enter Tryz.func37, Tryz.ntmps37
      go_wp2_with fail
      go_ret
      exact ⟨eqb HC.out, hb⟩
    · have k2 : (2147483647 : Int) < (x2.size : Int) := by omega
      have HC := Lib.hid (show false = mtB (ty, x1, x2) by simp [mtB, c1, c2])
      clear c1 c2
      go_enter Tryz.func37, Tryz.ntmps37
      go_wp2_with fail
      go_ret
      exact ⟨eqb HC.out, hb⟩
  · have k1 : (2147483647 : Int) < (x1.size : Int) := by omega
    have HC := Lib.hid (show false = mtB (ty, x1, x2) by simp [mtB, c1])
    clear c1
    go_enter Tryz.func37, Tryz.ntmps37
    go_wp2_with fail
    go_ret
    exact ⟨eqb HC.out, hb⟩
set_option maxRecDepth 100000 in
set_option maxHeartbeats 2000000 in
theorem fits24_any (v : Value) (l : List Mt) (c : Bool) (w : World) (h : Ms w v l) (hc : (decide (l.length ≤ 2147483647) && l.all mtB) = c) :
    Calls Tryz.prog 10 #[v] w fun e w' => e = .returned (.bool c) ∧ Below w.heap.size w w' := by
  obtain ⟨ao, cap, rfl, h1, h2⟩ := h.form
  by_cases c1 : 2147483647 < l.length
  · have c1' : (2147483647 : Int) < (l.length : Int) := by omega
    have HC := Lib.hid (show false = c by rw [← hc, decide_eq_false (by omega)]; rfl)
    clear hc
    go_enter Tryz.func10, Tryz.ntmps10
    go_wp2_with fail
    go_ret
    exact ⟨eqb HC.out, Below.refl _ _⟩
  · have c1' : ¬ (2147483647 : Int) < (l.length : Int) := by omega
    have HC := Lib.hid (show l.all mtB = c by rw [← hc, decide_eq_true (show l.length ≤ 2147483647 by omega)]; simp)
    clear hc
    go_enter Tryz.func10, Tryz.ntmps10
    go_wp2_with fail
    go_loopw [10] (fun i wr => ∃ k : Nat, k ≤ l.length ∧ i = .int .i64 k ∧ Hid ((l.take k).all mtB = true) ∧ Below w.heap.size w wr) (fun i _ => l.length - (intOf i).toNat)
    case atStart => exact ⟨0, Nat.zero_le _, rfl, Lib.hid (by simp), Below.refl _ _⟩
    case round => as_aux_lemma =>
      obtain ⟨k, hk, rfl, hall, hbel⟩ := hrel
      by_cases hlt : k < l.length
      · obtain ⟨b, off, rfl, hbB, hcc⟩ := h.at_ (by omega)
        obtain ⟨d0, d1, d2⟩ := hcc k hlt
        have c2 := (hbel.cell (p := ⟨b, off + k * 3, none⟩) hbB).trans d0
        have c3 := (hbel.cell (p := ⟨b, off + k * 3 + 1, none⟩) hbB).trans d1
        have c4 := (hbel.cell (p := ⟨b, off + k * 3 + 2, none⟩) hbB).trans d2
        have i0' : (0 : Int) ≤ (k : Int) := by omega
        have i1 : (k : Int) < (l.length : Int) := by omega
        have HA := Lib.hid (show (l.take (k + 1)).all mtB = ((l.take k).all mtB && mtB l[k]) by rw [take_next hlt, List.all_append]; simp)
        have HM := Lib.hid (List.getElem_mem hlt)
        clear hcc d0 d1 d2
        generalize l[k] = x at *
        obtain ⟨ty, x1, x2⟩ := x
        simp only at c2 c3 c4
        have hF := fits23_any (ty, x1, x2)
        simp only at hF
        have hb2 := hbel.alloc hbel.size (.cells #[.int .i64 ty, .string x1, .string x2] IMT)
        cases q : mtB (ty, x1, x2)
        · have HX := Lib.hid q
          rw [q] at hF
          clear q
          go_wp2_with ((with_reducible refine (hF _).mono ?_); rintro e w1 ⟨rfl, hb1⟩)
          go_ret
          exact ⟨eqb (by rw [← HC.out]; symm; rw [List.all_eq_false]; exact ⟨_, HM.out, by rw [HX.out]; simp⟩), bnx hb2 hb1⟩
        · have HX := Lib.hid q
          rw [q] at hF
          clear q
          go_wp2_with ((with_reducible refine (hF _).mono ?_); rintro e w1 ⟨rfl, hb1⟩)
          go_roundw
          case rel => exact ⟨k + 1, by omega, by simp, Lib.hid (by rw [HA.out, hall.out, HX.out]; rfl), bnx hb2 hb1⟩
          case measure => simp [intOf]; omega
      · obtain rfl : k = l.length := by omega
        go_wp2_with fail
        go_ret
        have := hall.out
        rw [List.take_length] at this
        exact ⟨eqb (by rw [← HC.out, this]), hbel⟩
end Go.Proofs.YtapoodnjkkhggaaGreat
