/-
  StringList; FnStringList: the walk of the law.
-/
import Derived.Test.YtfllcbcokncgpaaGreatDoorWords
namespace Go.Proofs.YtfllcbcokncgpaaGreatDoor
set_option linter.unusedSimpArgs false
set_option linter.unusedVariables false
open Go.RowKit

theorem own_strs_append {w : World} {base n : Nat} {v : Value} {xs : List Value} (hown : w.ownsRow base 9 1 v n xs) (p o m c : Nat) (news : List Value) (hl : news.length = m) (hc : ∀ j u, news[j]? = some u → w.cell? ⟨p, o + j, none⟩ = some u) (h1 : ∀ u ∈ news, u.oneCell' = true) (hn : n + m ≤ 2147483648) (hbase : base ≤ w.heap.size) :
    ∃ v' w', (Builtin.append_ #[34, 34] 34 #[v, .slice (some ⟨p, o, none⟩) m c]).run Tryz.prog w = .ok v' w' ∧ w'.ownsRow base 9 1 v' (n + m) (xs ++ news) ∧ w.grownBy w' v.ownBlock := by
  obtain ⟨i0, hi, hz0, hz1, hz2⟩ := info_parts infoStr
  obtain ⟨v', w', h1, h2, h3, _⟩ := run_append_own (P := Tryz.prog) w base 34 34 9 i0 _ 1 16 Tryz.underlying34 hi hz0 hz1 hz2 rfl (by decide) v n xs hown ⟨p, o, none⟩ m c news (by omega) (fun j u hj => by rw [add_cell]; exact hc j u hj) h1 (by unfold maxLen; omega) (by omega) hbase
  exact ⟨v', w', h1, h2, h3⟩
theorem strs_own {w : World} {base n : Nat} {v : Value} {l : List ByteArray} (h : w.ownsRow base 9 1 v n (l.map Value.string)) : Strs w v l := by
  have hn : l.length = n := by have := h.1; rw [List.length_map] at this; omega
  unfold Strs
  rw [hn]
  refine (Sl.own h).congr fun i hi => ?_
  have hl : i < l.length := by omega
  rw [List.getD_eq_getElem?_getD, List.getElem?_map, List.getElem?_eq_getElem hl]
  simp [hl]
theorem copy_strs (w : World) (v : Value) (l : List ByteArray) (h : Strs w v l) (hl : l.length ≤ 2147483647) :
    ∃ v' w', (Builtin.append_ #[34, 34] 34 #[.slice (some ⟨w.heap.size, 0, none⟩) 0 0, v]).run Tryz.prog (w.alloc (.cells #[] 9)) = .ok v' w' ∧ w'.ownsRow w.heap.size 9 1 v' l.length (l.map Value.string) ∧ Below w.heap.size w w' ∧ ∃ g c, v' = .slice (some ⟨g, 0, none⟩) l.length c := by
  obtain ⟨ao, cap, rfl, h1, h2⟩ := h.form
  have hO := own_empty w 9 1
  rcases Nat.eq_zero_or_pos l.length with h0 | h0
  · have : l = [] := List.length_eq_zero_iff.1 h0
    subst this
    obtain ⟨i0, hi, hz0, hz1, hz2⟩ := info_parts infoStr
    cases ao with
    | none =>
      refine ⟨_, w.alloc (.cells #[] 9), ?_, hO, below_new w _, _, _, rfl⟩
      have := run_append_room_src (P := Tryz.prog) (w := w.alloc (.cells #[] 9)) 34 34 34 9 i0 Tryz.underlying34 hi w.heap.size 0 0 0 (.slice none 0 cap) 0 [] (Src.ofNil _ Tryz.underlying34 cap) (by omega) (fun j hj => absurd hj (by simp)) (fun j hj => absurd hj (by simp))
      rw [show ([] : List ByteArray).length = 0 from rfl, this]
      simp [World.setCells]
    | some a =>
      refine ⟨_, w.alloc (.cells #[] 9), ?_, hO, below_new w _, _, _, rfl⟩
      have := run_append_room_src (P := Tryz.prog) (w := w.alloc (.cells #[] 9)) 34 34 34 9 i0 Tryz.underlying34 hi w.heap.size 0 0 0 (.slice (some a) 0 cap) 0 [] (Src.ofSlice _ Tryz.underlying34 a 0 cap [] (by simp) (fun j u hj => by simp at hj) (fun u hu => by simp at hu)) (by omega) (fun j hj => absurd hj (by simp)) (fun j hj => absurd hj (by simp))
      rw [show ([] : List ByteArray).length = 0 from rfl, this]
      simp [World.setCells]
  · obtain ⟨b, off, rfl, hb, hc⟩ := h.at_ h0
    obtain ⟨v', w', hr, ho, hg⟩ := own_strs_append hO b off l.length cap (l.map Value.string) (List.length_map ..) (fun j u hj => by
      rw [List.getElem?_map] at hj
      have hjl : j < l.length := by
        rcases Nat.lt_or_ge j l.length with h | h
        · exact h
        · rw [List.getElem?_eq_none h] at hj; cases hj
      rw [List.getElem?_eq_getElem hjl] at hj
      simp at hj
      subst hj
      exact ((below_new w _).cell (p := ⟨b, off + j, none⟩) hb).trans (hc j hjl)) (by intro u hu; simp at hu; obtain ⟨a, _, rfl⟩ := hu; rfl) (by omega) (by simp)
    refine ⟨v', w', hr, ?_, (below_new w _).grown hg (by simp) (fun q hq => (hO.lt q hq).1), ?_⟩
    · simpa using ho
    · rcases ho.2 with ⟨rfl, h⟩ | ⟨g, cap', cur, rfl, _⟩
      · omega
      · exact ⟨g, cap', by simp⟩


set_option maxRecDepth 100000 in
set_option maxHeartbeats 2000000 in
theorem stringList_any (v : Value) (l : List ByteArray) (w : World) (h : Strs w v l) (hl : l.length ≤ 1000000) :
    Calls Tryz.prog 20 #[v] w fun e w' => ∃ x, e = .returned x ∧ Strs w' x l ∧ Below w.heap.size w w' := by
  obtain ⟨ao, cap, rfl, h1, h2⟩ := h.form
  obtain ⟨v', w1, hr, ho, hb1, gg, gc, rfl⟩ := copy_strs w _ l h (by omega)
  have HR := Lib.hid hr
  clear hr
  have hz1 := hb1.size
  have hI := Blk.new w1 [.slice (some ⟨gg, 0, none⟩) l.length gc, .string ⟨#[]⟩] SI
  have hS : SB (w1.alloc (.cells #[.slice (some ⟨gg, 0, none⟩) l.length gc, .string ⟨#[]⟩] SI)) w1.heap.size (.slice (some ⟨gg, 0, none⟩) l.length gc) l := Sl.below (strs_own ho) (below_new w1 _) (Nat.le_refl _)
  have hb2 := hb1.alloc hz1 (.cells #[.slice (some ⟨gg, 0, none⟩) l.length gc, .string ⟨#[]⟩] SI)
  go_enter Tryz.func20, Tryz.ntmps20
  go_wp2_with (first
    | (at_builtin; refine list_run 34 34 rfl (.tmp 3) (.tmp 4) rfl rfl rfl rfl HR.out ?_)
    | (go_at_call 44; refine (newIter_any _ _ _ _).mono ?_; rintro e w2 ⟨rfl, rfl⟩)
    | (go_at_call 43; refine (words_any _ _ l _ _ hI hS hl).mono ?_; rintro e w3 ⟨x, rfl, ho3, hc3⟩; obtain ⟨xa, xc, rfl⟩ := own_form ho3)
    | fail)
  go_ret
  exact ⟨_, rfl, strs_own ho3, hb2.trans (hc3.below _ (by have := hb2.size; exact this) (fun q hq => by have := hb2.size; omega))⟩

set_option maxRecDepth 100000 in
set_option maxHeartbeats 4000000 in
theorem wStringList (v : Value) (l : List ByteArray) (w : World) (h : Strs w v l) :
    Calls Tryz.prog 5 #[v] w fun e w' => e = .returned (.bool true) ∧ Below w.heap.size w w' := by
  obtain ⟨ao, cap, rfl, h1, h2⟩ := h.form
  cases hc : (decide (l.length ≤ 2147483647) && l.all strB)
  · have HC := Lib.hid hc
    clear hc
    go_enter Tryz.func5, Tryz.ntmps5
    go_wp2_with (first | (go_at_call 18; refine (fits13_any _ l false _ h HC.out).mono ?_; rintro e w1 ⟨rfl, hb1⟩) | fail)
    go_ret
    exact ⟨rfl, hb1⟩
  · have HC := Lib.hid hc
    clear hc
    by_cases c2 : 200 < l.length
    · have c2' : (200 : Int) < (l.length : Int) := by omega
      go_enter Tryz.func5, Tryz.ntmps5
      go_wp2_with (first
        | (go_at_call 18; refine (fits13_any _ l true _ h HC.out).mono ?_; rintro e w1 ⟨rfl, hb1⟩)
        | (go_at_call 12; refine (awake_any _).mono ?_; rintro e w2 ⟨rfl, hb2⟩) | fail)
      go_ret
      exact ⟨rfl, bnx hb1 hb2⟩
    · have c2' : ¬ (200 : Int) < (l.length : Int) := by omega
      go_enter Tryz.func5, Tryz.ntmps5
      go_wp2_with (first
        | (go_at_call 18; refine (fits13_any _ l true _ h HC.out).mono ?_; rintro e w1 ⟨rfl, hb1⟩) | fail)
      go_loopw [3] (fun i wr => ∃ k : Nat, 1 ≤ k ∧ i = .int .i64 k ∧ Below w.heap.size w wr) (fun i _ => l.length - (intOf i).toNat)
      case atStart => exact ⟨1, Nat.le_refl _, rfl, hb1⟩
      case round => as_aux_lemma =>
        obtain ⟨k, hk, rfl, hbel⟩ := hrel
        by_cases hlt : k < l.length
        · obtain ⟨b, off, rfl, hbB, hcc⟩ := h.at_ (by omega)
          have d1 := (hbel.cell (p := ⟨b, off + k, none⟩) hbB).trans (hcc k hlt)
          have d0 := (hbel.cell (p := ⟨b, off + (k - 1), none⟩) hbB).trans (hcc (k - 1) (by omega))
          clear hcc
          generalize l[k] = x at *
          generalize l[k - 1] = y at *
          have i0 : (0 : Int) ≤ (k : Int) := by omega
          have i1 : (k : Int) < (l.length : Int) := by omega
          have j0 : (0 : Int) ≤ (k : Int) - 1 := by omega
          have j1 : (k : Int) - 1 < (l.length : Int) := by omega
          have j2 : (1 : Int) ≤ (k : Int) := by omega
          have jn : ((k : Int) - 1).toNat = k - 1 := by omega
          have jw : IntKind.i64.wrap ((k : Int) - 1) = (k : Int) - 1 := IntWalk.i64_in _ (by omega)
          cases hq : Op.bytesLess x.toList y.toList
          · go_wp2_with fail
            go_quiet (fail)
            go_wp2_with fail
            exact ⟨⟨k + 1, by omega, by simp, below_drewN hbel nq⟩, by simp [intOf]; omega⟩
          · go_wp2_with fail
            go_quiet (fail)
            have hbn := below_drewN hbel nq
            go_wp2_with (first | (go_at_call 12; refine (awake_any _).mono ?_; rintro e w2 ⟨rfl, hb2⟩) | fail)
            go_ret
            exact ⟨rfl, bnx hbn hb2⟩
        · have hge : ¬ (k : Int) < (l.length : Int) := by omega
          have hb0 := h.up hbel
          go_wp2_with (first
            | (go_at_call 12; refine (awake_any _).mono ?_; rintro e w2 ⟨rfl, hb2⟩; have hB2 := bnx hbel hb2)
            | (go_at_call 20; refine (stringList_any _ l _ (h.up hB2) (by omega)).mono ?_; rintro e w3 ⟨x, rfl, hx, hb3⟩; have hB3 := bnx hB2 hb3; obtain ⟨xa, xc, rfl, _, _⟩ := hx.form)
            | (go_at_call 19; refine (sameWords_eq _ _ l _ hx (h.up hB3) (by omega)).mono ?_; rintro e w4 ⟨rfl, hb4⟩; have hB4 := bnx hB3 hb4)
            | fail)
          go_ret
          exact ⟨rfl, hB4⟩
end Go.Proofs.YtfllcbcokncgpaaGreatDoor
