/-
  words: the strings of an iterator, copied.
-/
import Derived.Test.YtfllcbcokncgpaaGreatDoorStrIter
import Derived.Deep.LoopGhost
import Derived.Lib.ConvBytes
import Derived.Laws.IdiomStrings
namespace Go.Proofs.YtfllcbcokncgpaaGreatDoor
set_option linter.unusedSimpArgs false
set_option linter.unusedVariables false
open Go.RowKit

/-- a slice of strings below B -/
def SB (w : World) (B : Nat) (v : Value) (l : List ByteArray) : Prop := Sl w B 1 v l.length fun i => .string (l.getD i ByteArray.empty)
theorem SB.at_ {w : World} {B : Nat} {ao : Option Addr} {n cap : Nat} {l : List ByteArray} (h : SB w B (.slice ao n cap) l) (hn : 0 < l.length) :
    ∃ b off, ao = some ⟨b, off, none⟩ ∧ b < B ∧ B ≤ w.heap.size ∧ ∀ i (hi : i < l.length), w.cell? ⟨b, off + i, none⟩ = some (.string l[i]) := by
  obtain ⟨b, off, h1, h2, h2', h3⟩ := Sl.at_ h hn
  exact ⟨b, off, h1, h2, h2', fun i hi => by rw [h3 i (by omega)]; simp [hi]⟩
theorem SB.tail {w : World} {B b off n cap : Nat} {a : Option Addr} {x : ByteArray} {l : List ByteArray} (h : SB w B (.slice (some ⟨b, off, none⟩) n cap) (x :: l)) (ha : 1 < n → a = some ⟨b, off + 1, none⟩) : SB w B (.slice a (n - 1) (cap - 1)) l := by
  obtain ⟨ao', cap', hv, h1, h2, h3⟩ := h
  cases hv
  simp only [List.length_cons] at h1 ha h3
  refine ⟨a, cap - 1, by simp, by omega, by omega, ?_⟩
  rcases Nat.eq_zero_or_pos l.length with h0 | h0
  · exact .inl h0
  · rcases h3 with h3 | ⟨b', off', e, hb, hB, hc⟩
    · omega
    · cases e
      refine .inr ⟨b, off + 1, ha (by omega), hb, hB, fun i hi => ?_⟩
      have := hc (i + 1) (by omega)
      rw [show off + 1 + i = off + (i + 1) by omega, this]
      simp
theorem conv_there (w : World) (s : ByteArray) : ∃ v W, (convert 9 27 (.string s)).run Tryz.prog w = .ok v W ∧ (convert 27 9 v).run Tryz.prog W = .ok (.string s) W ∧ Below w.heap.size w W ∧ W.heap.size = w.heap.size + 1 ∧ ∃ a n c, v = .slice a n c := by
  refine ⟨_, _, Lib.run_convert_string_bytes w 9 27 5 s Tryz.underlying9 Tryz.underlying27 Tryz.underlying5, ?_, ?_, Lib.bytesWorld_size _ _ _, _, _, _, rfl⟩
  · have := run_convert_bytes_back (P := Tryz.prog) (Lib.bytesWorld w 5 s) 27 9 5 ⟨w.heap.size, 0, none⟩ (grownCap w s.size 0 5) s.data.toList Tryz.underlying27 Tryz.underlying5 Tryz.underlying9 (fun j hj => by
      rw [add_cell, Nat.zero_add, Lib.bytesWorld_cell w 5 s j (by rw [Array.length_toList] at hj; exact hj), List.getD_eq_getElem?_getD, List.getElem?_eq_getElem hj]
      rfl)
    rw [Array.length_toList] at this
    exact this
  · exact ⟨rfl, rfl, rfl, by rw [Lib.bytesWorld_size]; omega, fun k hk => Lib.bytesWorld_at_old w _ s k hk⟩
theorem infoStr : (Tryz.prog.info? 9).map (fun i => (i.zero, i.size, i.bytes)) = some (some (.string ⟨#[]⟩), 1, 16) := by kernel_rfl

set_option maxRecDepth 100000 in
set_option maxHeartbeats 4000000 in
theorem words_any (I : Nat) (v : Value) (l : List ByteArray) (s0 : ByteArray) (w : World) (hI : Blk w I [v, .string s0] SI) (hS : SB w I v l) (hl : l.length ≤ 1000000) :
    Calls Tryz.prog 43 #[.iface PSI (.pointer (some ⟨I, 0, none⟩))] w fun e w' => ∃ x, e = .returned x ∧ w'.ownsRow w.heap.size 9 1 x l.length (l.map Value.string) ∧ Chg (fun q => q = I ∨ w.heap.size ≤ q) w w' := by
  have hmN := siN
  obtain ⟨i0, hi, hz0, hz1, hz2⟩ := info_parts infoStr
  go_enter Tryz.func43, Tryz.ntmps43
  go_wp2_with fail
  go_loopg [3] l.length (fun kx ov wr => ∃ k v' s', k + kx = l.length ∧ Blk wr I [v', .string s'] SI ∧ SB wr I v' (l.drop k) ∧ wr.ownsRow w.heap.size 9 1 ov k ((l.take k).map Value.string) ∧ Chg (fun q => q = I ∨ w.heap.size ≤ q) w wr)
  case atStart => exact ⟨0, v, s0, by omega, hI, hS, World.ownsRow_nil _ _ _ _, Chg.refl _ _⟩
  case round => as_aux_lemma =>
    obtain ⟨k, v', s', hk, hIr, hSr, hown, hch⟩ := hrel
    obtain ⟨za, zc, rfl⟩ := own_form hown
    have hz := hch.size
    have hIw := hI.lt
    by_cases hlt : k < l.length
    · have hd : l.drop k = l[k] :: l.drop (k + 1) := List.drop_eq_getElem_cons hlt
      rw [hd] at hSr
      obtain ⟨ao, n, cap, rfl, hn0⟩ : ∃ ao n cap, v' = .slice ao n cap ∧ n = l.length - k := by
        obtain ⟨a, c, e, _⟩ := Sl.form hSr
        exact ⟨a, _, c, e, by simp only [List.length_cons, List.length_drop]; omega⟩
      obtain ⟨b, off, rfl, hbI, hIW, hc⟩ := hSr.at_ (Nat.succ_pos _)
      have hx := hc 0 (Nat.succ_pos _)
      rw [Nat.add_zero] at hx
      simp only [List.getElem_cons_zero] at hx
      have hcap : n ≤ cap := by
        obtain ⟨a, c, e, h3, _⟩ := Sl.form hSr
        cases e
        exact h3
      have HT := Lib.hid (show (l.take (k + 1)).map Value.string = (l.take k).map Value.string ++ [.string l[k]] by rw [take_next hlt, List.map_append]; rfl)
      clear hd hc
      generalize l[k] = x at *
      have hn1 : 0 < n := by omega
      clear hn0
      go_wp2_with (first
        | ((with_reducible refine (siNext_some I b off n cap s' x wr hIr hn1 hcap hx hbI).mono ?_); rintro e w2 ⟨rfl, ⟨a2, hI2, ha2⟩, hc2⟩; have hmA := siA w2 I a2 (n - 1) (cap - 1) x hI2)
        | ((with_reducible refine (siAt_any a2 (n - 1) (cap - 1) x w2).mono ?_); rintro e w3 ⟨rfl, hb3⟩; obtain ⟨cv, W4, cvA, cvB, hb4, -, ca, cn, cc, rfl⟩ := conv_there w3 x; have hc24 : Chg (fun q => q = I ∨ wr.heap.size ≤ q) wr W4 := (hc2.mono fun q hq => .inl hq).trans (((Chg.ofBelow hb3).mono fun q hq => .inr (Nat.le_trans hc2.size hq)).trans ((Chg.ofBelow hb4).mono fun q hq => .inr (Nat.le_trans hc2.size (Nat.le_trans hb3.size hq)))); have hO := own_alloc (own_chg hown hc24 (fun g h1 h2 c => by have := hown.lt g h2; omega)) (.cells #[.string x] 9); have hz24 := hc24.size)
        | (at_builtin; refine list_app 34 9 i0 _ 1 16 rfl (.tmp 6) (.tmp 11) rfl rfl Tryz.underlying34 hi hz0 hz1 hz2 rfl (by decide) (by decide) w.heap.size (.slice za k zc) k ((l.take k).map Value.string) rfl hO W4.heap.size rfl [.string x] rfl (heap_alloc_new W4 _) (by intro u hu; simp at hu; subst hu; rfl) (by omega) (by simp; omega) ?_; intro v' w5 ho hg)
        | fail)
      have hW5 : Chg (fun q => q = I ∨ w.heap.size ≤ q) wr w5 := ((hc24.mono fun q hq => hq.elim .inl (fun h => .inr (Nat.le_trans hz h))).alloc (.cells #[.string x] 9)).grown hg (fun q hq => .inr (hO.lt q hq).1)
      have hI5 := ((((hI2.chg (Chg.ofBelow hb3) (by have := hI2.lt; omega)).chg (Chg.ofBelow hb4) (by have := hI2.lt; have := hb3.size; omega)).alloc (.cells #[.string x] 9)).chg (Chg.ofGrown hg) (fun hq => by have := hO.lt I hq.symm; omega))
      have hS5 : SB w5 I (.slice a2 (n - 1) (cap - 1)) (l.drop (k + 1)) := Sl.below (hSr.tail ha2) (hW5.below I (by omega) (fun q hq => by omega)) (Nat.le_refl _)
      have hch5 := hch.trans hW5
      rw [← HT.out] at ho
      clear hown hO hg hch hc24 hc2 hIr hI2 hSr hz hb3 hb4 hz24 hW5 hmA cvA cvB
      go_roundg (gk - 1)
      case rel => exact ⟨k + 1, _, x, by omega, hI5, hS5, ho, hch5⟩
      case measure => omega
    · obtain rfl : k = l.length := by omega
      obtain ⟨ao, cap, rfl, _⟩ := Sl.form hSr
      simp only [List.drop_length, List.length_nil] at hIr
      go_wp2_with (first | ((with_reducible refine (siNext_none I ao cap s' wr hIr).mono ?_); rintro e w2 ⟨rfl, rfl⟩) | fail)
      go_ret
      rw [List.take_length] at hown
      exact ⟨_, rfl, hown, hch⟩
end Go.Proofs.YtfllcbcokncgpaaGreatDoor
