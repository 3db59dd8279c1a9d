/-
  slices.SortFunc of at most 12 labels.
-/
import Derived.Test.YtapoodnjkkhggaaGreatSort
import Derived.LoopN
namespace Go.Proofs.YtapoodnjkkhggaaGreat
set_option linter.unusedSimpArgs false
set_option linter.unusedVariables false
open Go.RowKit

theorem own_lrow {w : World} {base : Nat} {v : Value} {l : List Lb} (h : w.ownsRow base LT 2 v l.length (lcells l)) :
    (v = .slice none 0 0 ∧ l = []) ∨ ∃ g cap r, v = .slice (some ⟨g, 0, none⟩) l.length cap ∧ base ≤ g ∧ l.length ≤ cap ∧ cap ≤ maxLen ∧ LRow w g l r ∧ ∀ (w' : World) (l' : List Lb), l'.length = l.length → LRow w' g l' r → w'.ownsRow base LT 2 v l.length (lcells l') := by
  obtain ⟨hl, ⟨rfl, h0⟩ | ⟨g, cap, cur, rfl, h1, h2, h3, h4, h5, h6⟩⟩ := h
  · exact .inl ⟨rfl, List.length_eq_zero_iff.1 h0⟩
  · have hcur : lcells l ++ cur.toList.drop (l.length * 2) = cur.toList := by
      rw [← h6, List.take_append_drop]
    refine .inr ⟨g, cap, cur.toList.drop (l.length * 2), rfl, h1, h3, h4, ?_, ?_⟩
    · unfold LRow Blk
      rw [hcur]
      simpa using h2
    · intro w' l' hl' hr
      have hs : (lcells l' ++ cur.toList.drop (l.length * 2)).length = cap * 2 := by
        have e : cur.toList.length = cap * 2 := by rw [Array.length_toList, h5]
        rw [List.length_append, lcells_length, hl', List.length_drop, e]
        omega
      refine ⟨by rw [lcells_length, hl'], .inr ⟨g, cap, (lcells l' ++ cur.toList.drop (l.length * 2)).toArray, rfl, h1, hr, h3, h4, by simpa using hs, ?_⟩⟩
      rw [List.toList_toArray, List.take_left' (by rw [lcells_length, hl'])]
set_option maxRecDepth 100000 in
set_option maxHeartbeats 4000000 in
theorem insSort_nil (f : FuncId) (w : World) :
    Calls Tryz.prog 157 #[.slice none 0 0, .int .i64 0, .int .i64 0, .func (.func f) #[] #[]] w fun e w' => e = .returned (.tuple #[]) ∧ w = w' := by
  go_enter Tryz.func157, Tryz.ntmps157
  go_wp2_with fail
  refine wp_loop_rounds 1 ?_
  rw [rounds_succ]
  go_wp2_with fail
  go_end0
  exact ⟨rfl, rfl⟩
set_option maxRecDepth 100000 in
set_option maxHeartbeats 4000000 in
theorem pdq_nil (f : FuncId) (z : Int) (w : World) :
    Calls Tryz.prog 135 #[.slice none 0 0, .int .i64 0, .int .i64 0, .int .i64 z, .func (.func f) #[] #[]] w fun e w' => e = .returned (.tuple #[]) ∧ w = w' := by
  go_enter Tryz.func135, Tryz.ntmps135
  go_wp2_with fail
  refine wp_loop_rounds 1 ?_
  rw [rounds_succ]
  go_wp2_with ((with_reducible refine (insSort_nil f _).mono ?_); rintro e w1 ⟨rfl, rfl⟩)
  exact bodyPost_ret (v := .tuple #[]) (by simp [results, Tryz.results135, go_sem]) rfl ⟨rfl, rfl⟩
set_option maxRecDepth 100000 in
set_option maxHeartbeats 4000000 in
theorem pdq_any (g n cap : Nat) (l : List Lb) (r : List Value) (f : FuncId) (z : Int) (w : World) (hR : LRow w g l r) (hn : n = l.length) (hl : n ≤ 12) (hc : n ≤ cap) (hF : Cmps f) :
    Calls Tryz.prog 135 #[.slice (some ⟨g, 0, none⟩) n cap, .int .i64 0, .int .i64 n, .int .i64 z, .func (.func f) #[] #[]] w fun e w' => e = .returned (.tuple #[]) ∧ LRow w' g (sortL l) r ∧ Chg (fun q => q = g) w w' := by
  have hS := insSort_any g n cap l r f w hR hn (by omega) hc hF
  have h12 : (n : Int) ≤ 12 := by omega
  clear hn
  go_enter Tryz.func135, Tryz.ntmps135
  go_wp2_with fail
  refine wp_loop_rounds 1 ?_
  rw [rounds_succ]
  go_wp2_with ((with_reducible refine hS.mono ?_); rintro e w1 ⟨rfl, hR1, hc1⟩)
  exact bodyPost_ret (v := .tuple #[]) (by simp [results, Tryz.results135, go_sem]) rfl ⟨rfl, hR1, hc1⟩
theorem len_any (n : Nat) (w : World) (hn : n < 256) :
    Calls Tryz.prog 136 #[.int .u64 n] w fun e w' => ∃ z : Int, e = .returned (.int .i64 z) ∧ w = w' := by
  go_enter Tryz.func136, Tryz.ntmps136
  go_wp2_with ((with_reducible refine (len32_any n _ hn).mono ?_); rintro e w1 ⟨z, rfl, rfl⟩)
  go_ret
  exact ⟨_, rfl, rfl⟩
set_option maxRecDepth 100000 in
set_option maxHeartbeats 4000000 in
theorem sortFunc_any (base : Nat) (v : Value) (l : List Lb) (f : FuncId) (w : World) (hO : w.ownsRow base LT 2 v l.length (lcells l)) (hl : l.length ≤ 12) (hF : Cmps f) :
    Calls Tryz.prog 113 #[v, .func (.func f) #[] #[]] w fun e w' => e = .returned (.tuple #[]) ∧ w'.ownsRow base LT 2 v l.length (lcells (sortL l)) ∧ Chg (fun q => v.ownBlock = some q) w w' := by
  rcases own_lrow hO with ⟨rfl, rfl⟩ | ⟨g, cap, r, rfl, hb, hc, hm, hR, back⟩
  · have h0 := len_any 0 w (by omega)
    go_enter Tryz.func113, Tryz.ntmps113
    go_wp2_with (first | (go_at_call 136; refine h0.mono ?_; rintro e w1 ⟨z, rfl, rfl⟩) | ((with_reducible refine (pdq_nil f _ _).mono ?_); rintro e w1 ⟨rfl, rfl⟩) | fail)
    go_end0
    exact ⟨rfl, hO, Chg.refl _ _⟩
  · have hL := len_any l.length w (by omega)
    have hP := fun z => pdq_any g l.length cap l r f z w hR rfl hl hc hF
    have hB := Lib.hid back
    have h0 : (0 : Int) ≤ (l.length : Int) := by omega
    have hw : IntKind.u64.wrap (l.length : Int) = (l.length : Int) := IntWalk.u64_in _ (by omega)
    clear back hO hR
    go_enter Tryz.func113, Tryz.ntmps113
    go_wp2_with (first | (go_at_call 136; refine hL.mono ?_; rintro e w1 ⟨z, rfl, rfl⟩) | ((with_reducible refine (hP _).mono ?_); rintro e w1 ⟨rfl, hR1, hc1⟩) | fail)
    go_end0
    exact ⟨rfl, hB.out _ _ (sortL_length l) hR1, hc1.mono fun q hq => by rw [hq]; rfl⟩
end Go.Proofs.YtapoodnjkkhggaaGreat
