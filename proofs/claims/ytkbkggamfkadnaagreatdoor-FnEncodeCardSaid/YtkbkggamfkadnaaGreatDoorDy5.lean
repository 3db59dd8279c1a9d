/-
  spec.Decode: plain part, and its walk.
-/
import Derived.Test.YtkbkggamfkadnaaGreatDoorDy4
import Derived.Test.YtkbkggamfkadnaaGreatDoorDyA
import Derived.Deep.Cut
import Derived.Deep.CutBlock
namespace Go.Proofs.YtkbkggamfkadnaaGreatDoor
set_option linter.unusedSimpArgs false
set_option linter.unusedVariables false
open Go.RowKit

/-- a datum as the reference reads it: none: a length of 2^31 or more is told; some none: it is not whole -/
def sOne (k N : Nat) (m : List UInt8) : Option (Option ((Int × List UInt8) × List UInt8)) :=
  if k ≤ 5 then some ((decB (wd k) m).map fun p => (((p.1 : Nat), []), p.2))
  else if k ≤ 8 then some ((decU m).map fun p => (((p.1 : Nat), []), p.2))
  else if k = 9 then some ((decU m).map fun p => ((IntKind.u64.wrap (zagI p.1), []), p.2))
  else if k ≤ 11 then
    match decU m with
    | none => some none
    | some (X, r) => if 2147483648 ≤ X then none else if X ≤ r.length then some (some ((0, r.take X), r.drop X)) else some none
  else if N ≤ m.length then some (some (((N : Nat), []), m.drop N)) else some none
abbrev SSts := List ((Int × List UInt8) × Nat) × Option (Option (List UInt8))
def stepS (st : SSts) (kn : Nat × Nat) : SSts :=
  match st.2 with
  | some (some m) => match sOne kn.1 kn.2 m with
    | none => (st.1, none)
    | some none => (st.1, some none)
    | some (some (d, r)) => (st.1 ++ [(d, r.length)], some (some r))
  | _ => st
def runS (K : List (Nat × Nat)) (m : List UInt8) : SSts := K.foldl stepS ([], some (some m))
theorem runS_snoc (K : List (Nat × Nat)) (x : Nat × Nat) (m : List UInt8) : runS (K ++ [x]) m = stepS (runS K m) x := by unfold runS; rw [List.foldl_append]; rfl
theorem stuck_fold (K : List (Nat × Nat)) (st : SSts) (h : ∀ m, st.2 ≠ some (some m)) : K.foldl stepS st = st := by
  induction K generalizing st with
  | nil => rfl
  | cons x K ih =>
    have : stepS st x = st := by
      unfold stepS
      split
      · rename_i m hm; exact absurd hm (h m)
      · rfl
    rw [List.foldl_cons, this]
    exact ih st h
theorem runS_stuck (K : List (Nat × Nat)) (k : Nat) (m : List UInt8) (h : ∀ m', (runS (K.take k) m).2 ≠ some (some m')) : runS K m = runS (K.take k) m := by
  have e : runS K m = (K.drop k).foldl stepS (runS (K.take k) m) := by
    unfold runS
    rw [← List.foldl_append, List.take_append_drop]
  rw [e, stuck_fold _ _ h]

/-- the cells of data that the reference has read; their bytes lie below B -/
def SsOk (W : World) (B : Nat) (K : List (Int × Int × Value)) (xs : List ((Int × List UInt8) × Nat)) (Ls Fs : List Value) : Prop :=
  Ls.length = xs.length * 3 ∧ Fs.length = xs.length ∧ ∀ i (hi : i < xs.length), ∃ sv, Ls[i * 3]? = some (.int .i64 (K.getD i (0, 0, undef)).1) ∧ Ls[i * 3 + 1]? = some (.int .u64 xs[i].1.1) ∧ Ls[i * 3 + 2]? = some sv ∧ BB W B sv xs[i].1.2 ∧ Fs[i]? = some (.int .i64 xs[i].2)
theorem SsOk.low {W W' : World} {B : Nat} {K : List (Int × Int × Value)} {xs : List ((Int × List UInt8) × Nat)} {Ls Fs : List Value} (h : SsOk W B K xs Ls Fs) (hb : Below B W W') : SsOk W' B K xs Ls Fs :=
  ⟨h.1, h.2.1, fun i hi => let ⟨sv, a, b, c, d, e⟩ := h.2.2 i hi; ⟨sv, a, b, c, Sl.below d hb (Nat.le_refl _), e⟩⟩

/-- behind the switch of spec.Decode: a datum in block Q, and its size -/
def SCut (B : Nat) (W0 : World) (Q kk N : Nat) (m : List UInt8) (s11 : Value) (wx : World) : Prop := ∃ (sz : Nat) (n : Int) (s : List UInt8) (a : Option Addr) (j c : Nat), s11 = .int .i64 sz ∧ Blk wx Q [.int .i64 kk, .int .u64 n, .slice a j c] DaT ∧ BB wx B (.slice a j c) s ∧ sOne kk N m = some (some ((n, s), m.drop sz)) ∧ sz ≤ m.length ∧ Chg (fun q => q = Q) W0 wx
theorem SCut.intro {B : Nat} {W0 wx : World} {Q kk N : Nat} {m : List UInt8} (sz : Nat) (n : Int) (s : List UInt8) (a : Option Addr) (j c : Nat) (h1 : Blk wx Q [.int .i64 kk, .int .u64 n, .slice a j c] DaT) (h2 : BB wx B (.slice a j c) s) (h3 : sOne kk N m = some (some ((n, s), m.drop sz))) (h4 : sz ≤ m.length) (h5 : Chg (fun q => q = Q) W0 wx) : SCut B W0 Q kk N m (.int .i64 sz) wx := ⟨sz, n, s, a, j, c, rfl, h1, h2, h3, h4, h5⟩
theorem BB.nil (w : World) (B : Nat) : BB w B (.slice none 0 0) [] := ⟨none, 0, rfl, Nat.le_refl _, by decide, .inl rfl⟩

theorem BB.piece {w : World} {B bc n : Nat} {ba : Option Addr} {m : List UInt8} (h : BB w B (.slice ba n bc) m) (i k : Nat) (hk : i + k ≤ m.length) : BB w B (.slice (if bc = i then ba else ba.map (fun x => x.add i)) k (bc - i)) ((m.drop i).take k) := by
  obtain ⟨ao', cap', hv, h1, h2, h3⟩ := h
  cases hv
  have hl : ((m.drop i).take k).length = k := by rw [List.length_take, List.length_drop]; omega
  refine ⟨_, bc - i, by rw [hl], by rw [hl]; omega, by omega, ?_⟩
  rw [hl]
  rcases h3 with h3 | ⟨b', off', e, hb, hB, hc⟩
  · left; omega
  · by_cases hi : bc = i
    · left; omega
    · subst e
      refine .inr ⟨b', off' + i, by rw [if_neg hi]; simp [Addr.add], hb, hB, fun j hj => ?_⟩
      have := hc (i + j) (by omega)
      rw [show off' + i + j = off' + (i + j) by omega, this]
      simp only [List.getD_eq_getElem?_getD, List.getElem?_take, List.getElem?_drop]
      rw [if_pos (by omega)]
theorem BB.rest {w : World} {B bc : Nat} {ba : Option Addr} {m : List UInt8} (h : BB w B (.slice ba m.length bc) m) (i : Nat) (hk : i ≤ m.length) : BB w B (.slice (if bc = i then ba else ba.map (fun x => x.add i)) (m.length - i) (bc - i)) (m.drop i) := by
  have := BB.piece h i (m.length - i) (by omega)
  rwa [List.take_of_length_le (by rw [List.length_drop]; omega)] at this
theorem BB.head {w : World} {B bc n : Nat} {ba : Option Addr} {m : List UInt8} (h : BB w B (.slice ba n bc) m) (k : Nat) (hk : k ≤ m.length) : BB w B (.slice ba k bc) (m.take k) := by
  obtain ⟨ao', cap', hv, h1, h2, h3⟩ := h
  cases hv
  have hl : (m.take k).length = k := by rw [List.length_take]; omega
  refine ⟨ba, bc, by rw [hl], by rw [hl]; omega, by omega, ?_⟩
  rw [hl]
  rcases h3 with h3 | ⟨b', off', e, hb, hB, hc⟩
  · left; omega
  · refine .inr ⟨b', off', e, hb, hB, fun j hj => ?_⟩
    rw [hc j (by omega)]
    simp only [List.getD_eq_getElem?_getD, List.getElem?_take]
    rw [if_pos (by omega)]
theorem SsOk.snoc {W : World} {B k kk : Nat} {K : List (Int × Int × Value)} {xs : List ((Int × List UInt8) × Nat)} {Ls Fs : List Value} {sv : Value} {n : Int} {s : List UInt8} {r : Nat} (h : SsOk W B K xs Ls Fs) (hk : k < K.length) (hx : xs.length = k) (hkk : K[k].1 = (kk : Int)) (hs : BB W B sv s) :
    SsOk W B K (xs ++ [((n, s), r)]) (Ls ++ [.int .i64 kk, .int .u64 n, sv]) (Fs ++ [.int .i64 r]) := by
  obtain ⟨h1, h2, h3⟩ := h
  refine ⟨by simp [h1]; omega, by simp [h2], fun i hi => ?_⟩
  simp only [List.length_append, List.length_cons, List.length_nil] at hi
  by_cases hik : i < k
  · obtain ⟨v, a1, a2, a3, a4, a5⟩ := h3 i (by omega)
    refine ⟨v, by rw [List.getElem?_append_left (by omega)]; exact a1, ?_, by rw [List.getElem?_append_left (by omega)]; exact a3, ?_, ?_⟩
    · rw [List.getElem?_append_left (by omega), a2, List.getElem_append_left (by omega)]
    · rw [List.getElem_append_left (by omega)]; exact a4
    · rw [List.getElem?_append_left (by omega), a5, List.getElem_append_left (by omega)]
  · obtain rfl : i = k := by omega
    have g : (xs ++ [((n, s), r)])[i]'(by simp; omega) = ((n, s), r) := by
      rw [List.getElem_append_right (by omega)]
      simp [hx]
    refine ⟨sv, ?_, ?_, ?_, ?_, ?_⟩
    · rw [List.getElem?_append_right (by omega), h1, hx]
      simp [List.getD_eq_getElem?_getD, hk, hkk]
    · rw [List.getElem?_append_right (by omega), h1, hx, g]
      simp
    · rw [List.getElem?_append_right (by omega), h1, hx]
      simp
    · rw [g]; exact hs
    · rw [List.getElem?_append_right (by omega), h2, hx, g]
      simp
theorem run_next {K : List (Int × Int × Value)} {l m r : List UInt8} {k kk N : Nat} {d : Int × List UInt8} (htk : (K.take (k + 1)).map kn = (K.take k).map kn ++ [(kk, N)]) (hst : (runS ((K.take k).map kn) l).2 = some (some m)) (hone : sOne kk N m = some (some (d, r))) :
    runS ((K.take (k + 1)).map kn) l = ((runS ((K.take k).map kn) l).1 ++ [(d, r.length)], some (some r)) := by
  rw [htk, runS_snoc]
  unfold stepS
  rw [hst]
  simp only [hone]
theorem run_end {K : List (Int × Int × Value)} {l m : List UInt8} {k kk N : Nat} {o : Option (Option (List UInt8))} (htk : (K.take (k + 1)).map kn = (K.take k).map kn ++ [(kk, N)]) (hst : (runS ((K.take k).map kn) l).2 = some (some m)) (hone : (sOne kk N m = none ∧ o = none) ∨ (sOne kk N m = some none ∧ o = some none)) :
    runS (K.map kn) l = ((runS ((K.take k).map kn) l).1, o) := by
  have e : runS ((K.take (k + 1)).map kn) l = ((runS ((K.take k).map kn) l).1, o) := by
    rw [htk, runS_snoc]
    unfold stepS
    rw [hst]
    rcases hone with ⟨h, rfl⟩ | ⟨h, rfl⟩ <;> simp only [h]
  rw [← e]
  have := runS_stuck (K.map kn) (k + 1) l (fun m' h => by
    rw [← List.map_take, e] at h
    rcases hone with ⟨_, rfl⟩ | ⟨_, rfl⟩ <;> simp at h)
  rw [this, List.map_take]

/-- what spec.Decode answers -/
def SPost (w : World) (l : List UInt8) (K : List (Int × Int × Value)) (e : Ending) (w' : World) : Prop := ∃ ov lv Ls Fs, e = .returned (.tuple #[ov, lv, .int .i64 (match (runS (K.map kn) l).2 with | some (some _) => -1 | some none => ((runS (K.map kn) l).1.length : Int) | none => -2)]) ∧ Below w.heap.size w w' ∧ w'.ownsRow w.heap.size DaT 3 ov (runS (K.map kn) l).1.length Ls ∧ w'.ownsRow w.heap.size 3 1 lv (runS (K.map kn) l).1.length Fs ∧ SsOk w' w.heap.size K (runS (K.map kn) l).1 Ls Fs
theorem SPost.stop {w wr W0 wx : World} {l m : List UInt8} {K : List (Int × Int × Value)} {k kk N : Nat} {ov lv : Value} {Ls Fs : List Value} {z : Int} {o : Option (Option (List UInt8))} (htk : (K.take (k + 1)).map kn = (K.take k).map kn ++ [(kk, N)]) (hst : (runS ((K.take k).map kn) l).2 = some (some m)) (hxl : (runS ((K.take k).map kn) l).1.length = k)
    (hone : (sOne kk N m = none ∧ o = none ∧ z = -2) ∨ (sOne kk N m = some none ∧ o = some none ∧ z = k))
    (hbel : Below w.heap.size w wr) (hbn : Below wr.heap.size wr W0) (hc : Chg (fun q => q = wr.heap.size) W0 wx) (hL : wr.ownsRow w.heap.size DaT 3 ov k Ls) (hF : wr.ownsRow w.heap.size 3 1 lv k Fs) (hx : SsOk wr w.heap.size K (runS ((K.take k).map kn) l).1 Ls Fs) : SPost w l K (.returned (.tuple #[ov, lv, .int .i64 z])) wx := by
  have hr : runS (K.map kn) l = ((runS ((K.take k).map kn) l).1, o) := run_end htk hst (hone.elim (fun h => .inl ⟨h.1, h.2.1⟩) (fun h => .inr ⟨h.1, h.2.1⟩))
  have hbw : Below wr.heap.size wr wx := hbn.trans (hc.below _ hbn.size (fun q hq h => by omega))
  unfold SPost
  rw [hr]
  simp only [hxl]
  refine ⟨ov, lv, Ls, Fs, ?_, bnx hbel hbw, own_chg hL (Chg.ofBelow hbw) (fun g _ h2 h => by have := (hL.lt g h2).2; omega), own_chg hF (Chg.ofBelow hbw) (fun g _ h2 h => by have := (hF.lt g h2).2; omega), hx.low (hbw.mono hbel.size)⟩
  rcases hone with ⟨_, rfl, rfl⟩ | ⟨_, rfl, rfl⟩ <;> rfl
theorem SPost.full {w wr : World} {l m : List UInt8} {K : List (Int × Int × Value)} {ov lv : Value} {Ls Fs : List Value} (hst : (runS (K.map kn) l).2 = some (some m)) (hxl : (runS (K.map kn) l).1.length = K.length)
    (hbel : Below w.heap.size w wr) (hL : wr.ownsRow w.heap.size DaT 3 ov K.length Ls) (hF : wr.ownsRow w.heap.size 3 1 lv K.length Fs) (hx : SsOk wr w.heap.size K (runS (K.map kn) l).1 Ls Fs) : SPost w l K (.returned (.tuple #[ov, lv, .int .i64 (-1)])) wr := by
  refine ⟨ov, lv, Ls, Fs, by rw [hst], hbel, ?_, ?_, hx⟩
  · rw [hxl]; exact hL
  · rw [hxl]; exact hF
theorem wd_le (k : Nat) : wd k ≤ 8 := by
  unfold wd
  split <;> decide
theorem one_fix {k N : Nat} {m : List UInt8} (h : k ≤ 5) (hm : wd k ≤ m.length) : sOne k N m = some (some ((((Lib.beNat (m.take (wd k)) : Nat) : Int), []), m.drop (wd k))) := by
  unfold sOne decB
  rw [if_pos h, if_pos hm]; rfl
theorem one_fix0 {k N : Nat} {m : List UInt8} (h : k ≤ 5) (hm : ¬ wd k ≤ m.length) : sOne k N m = some none := by
  unfold sOne decB
  rw [if_pos h, if_neg hm]; rfl
theorem one_var0 {k N : Nat} {m : List UInt8} (h : 6 ≤ k) (h2 : k ≤ 11) (hm : uOk m = false) : sOne k N m = some none := by
  unfold sOne decU
  rw [if_neg (by omega), hm]
  simp only [Bool.false_eq_true, if_false, Option.map_none]
  repeat' split
  all_goals (first | rfl | omega | (rename_i h; cases h))
theorem one_var {k N : Nat} {m : List UInt8} (h : 6 ≤ k) (h2 : k ≤ 8) (hm : uOk m = true) : sOne k N m = some (some (((((uvar (m.take 10)).1 : Nat) : Int), []), m.drop (uvar (m.take 10)).2)) := by
  unfold sOne decU
  rw [if_neg (by omega), if_pos h2, hm]; rfl
theorem one_zag {N : Nat} {m : List UInt8} (hm : uOk m = true) : sOne 9 N m = some (some ((IntKind.u64.wrap (zagI (uvar (m.take 10)).1), []), m.drop (uvar (m.take 10)).2)) := by
  unfold sOne decU
  rw [hm]; rfl
theorem one_str {k N : Nat} {m : List UInt8} (h : k = 10 ∨ k = 11) (hm : uOk m = true) : sOne k N m = (if 2147483648 ≤ (uvar (m.take 10)).1 then none else if (uvar (m.take 10)).1 ≤ (m.drop (uvar (m.take 10)).2).length then some (some ((0, (m.drop (uvar (m.take 10)).2).take (uvar (m.take 10)).1), (m.drop (uvar (m.take 10)).2).drop (uvar (m.take 10)).1)) else some none) := by
  unfold sOne decU
  rcases h with rfl | rfl <;> rw [hm] <;> rfl
theorem one_skip {N : Nat} {m : List UInt8} : sOne 12 N m = (if N ≤ m.length then some (some (((N : Int), []), m.drop N)) else some none) := rfl
end Go.Proofs.YtkbkggamfkadnaaGreatDoor
