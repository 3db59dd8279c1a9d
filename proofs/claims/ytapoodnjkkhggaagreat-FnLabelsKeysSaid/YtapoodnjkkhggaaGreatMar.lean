/-
  How labels are encoded: sizes, and the bytes that are laid from the end on.
-/
import Derived.Test.YtapoodnjkkhggaaGreatCmp
import Derived.BigQuiet
import Derived.BigRegion
import Derived.Lib.BufferWrite
import Derived.Lib.LazyBuf
import Derived.Deep.RegionLaw
namespace Go.Proofs.YtapoodnjkkhggaaGreat
set_option linter.unusedSimpArgs false
set_option linter.unusedVariables false
open Go.RowKit

abbrev u8v (b : UInt8) : Value := .int .u8 (b.toNat : Int)
theorem szE_small {n : Nat} (h : n < 255) : (szE n).map u8v = [.int .u8 n] := by
  unfold szE
  rw [if_pos h]
  simp [u8v]
  omega
theorem szE_big {n : Nat} (h : ¬ n < 255) : (szE n).map u8v = [.int .u8 255, .int .u8 ((n : Int) % 256), .int .u8 ((n : Int) / 256 % 256), .int .u8 ((n : Int) / 65536 % 256)] := by
  unfold szE
  rw [if_neg h]
  simp [u8v]
theorem set_at {α : Type} (A : List α) (x y : α) (R : List α) (k : Nat) (hk : k = A.length) : (A ++ x :: R).set k y = A ++ y :: R := by
  subst hk
  rw [List.set_append_right _ _ (Nat.le_refl _), Nat.sub_self]
  rfl

set_option maxRecDepth 100000 in
theorem sizeWhen_any (n : Nat) (w : World) (hn : n < 16777216) :
    Calls Tryz.prog 177 #[.int .u64 n] w fun e w' => e = .returned (.int .i64 (szN n : Nat)) ∧ w = w' := by
  have h2 : (n : Int) ≤ 16777216 := by omega
  by_cases c : n < 255
  · have h1 : (n : Int) < 255 := by omega
    have hz := Lib.hid (show szN n = 1 by unfold szN; rw [if_pos c])
    go_enter Tryz.func177, Tryz.ntmps177
    go_wp2_with fail
    go_ret
    rw [hz.out]
    exact ⟨rfl, rfl⟩
  · have h1 : ¬ (n : Int) < 255 := by omega
    have hz := Lib.hid (show szN n = 4 by unfold szN; rw [if_neg c])
    go_enter Tryz.func177, Tryz.ntmps177
    go_wp2_with fail
    go_ret
    rw [hz.out]
    exact ⟨rfl, rfl⟩
/-- where a label lies: two strings -/
def LAt (w : World) (b off : Nat) (x : Lb) : Prop := w.cell? ⟨b, off, none⟩ = some (.string x.1) ∧ w.cell? ⟨b, off + 1, none⟩ = some (.string x.2)
set_option maxRecDepth 100000 in
set_option maxHeartbeats 2000000 in
theorem labelSize_any (b off : Nat) (x : Lb) (w : World) (hA : LAt w b off x) (h1 : x.1.size < 16777216) (h2 : x.2.size < 16777216) :
    Calls Tryz.prog 139 #[.pointer (some ⟨b, off, none⟩)] w fun e w' => e = .returned (.int .i64 (lbN x : Nat)) ∧ w = w' := by
  obtain ⟨x1, x2⟩ := x
  obtain ⟨c0, c1⟩ := hA
  simp only at c0 c1 h1 h2
  have s1 := sizeWhen_any x1.size w h1
  have s2 := sizeWhen_any x2.size w h2
  have z1 := szN_le x1.size
  have z2 := szN_le x2.size
  have hl := Lib.hid (show lbN (x1, x2) = szN x1.size + x1.size + (szN x2.size + x2.size) from rfl)
  have w1 : IntKind.u64.wrap (x1.size : Int) = (x1.size : Int) := IntWalk.u64_in _ (by omega)
  have w2 : IntKind.u64.wrap (x2.size : Int) = (x2.size : Int) := IntWalk.u64_in _ (by omega)
  generalize szN x1.size = q1 at *
  generalize szN x2.size = q2 at *
  go_enter Tryz.func139, Tryz.ntmps139
  go_wp2_with (first | ((with_reducible refine s1.mono ?_); rintro e w' ⟨rfl, rfl⟩) | ((with_reducible refine s2.mono ?_); rintro e w' ⟨rfl, rfl⟩) | fail)
  go_ret
  refine ⟨?_, rfl⟩
  rw [hl.out]
  simp
  omega
theorem lbsN_snoc (l : List Lb) (x : Lb) : lbsN (l ++ [x]) = lbsN l + lbN x := by simp [lbsN]
theorem lbN_le {x : Lb} (h1 : x.1.size < 16777216) (h2 : x.2.size < 16777216) : lbN x ≤ 33554440 := by
  unfold lbN
  have := szN_le x.1.size
  have := szN_le x.2.size
  omega
theorem lbsN_le {l : List Lb} (h : FitL l) : lbsN l ≤ l.length * 33554440 := by
  induction l with
  | nil => exact Nat.le_refl _
  | cons x l ih =>
    have h1 := h x List.mem_cons_self
    have h2 := lbN_le h1.1 h1.2
    have h3 := ih fun y hy => h y (List.mem_cons_of_mem _ hy)
    simp only [lbsN, List.map_cons, List.sum_cons, List.length_cons] at *
    omega
theorem lbsN_take {l : List Lb} {k : Nat} (hk : k < l.length) : lbsN (l.take (k + 1)) = lbsN (l.take k) + lbN l[k] := by rw [take_next hk, lbsN_snoc]
theorem lbsN_take_le (l : List Lb) (k : Nat) : lbsN (l.take k) ≤ lbsN l := by
  have : lbsN l = lbsN (l.take k) + lbsN (l.drop k) := by
    unfold lbsN
    rw [← List.sum_append, ← List.map_append, List.take_append_drop]
  omega
set_option maxRecDepth 100000 in
set_option maxHeartbeats 2000000 in
theorem labelsSize_any (v : Value) (l : List Lb) (w : World) (h : Ls w v l) (hf : FitL l) (hl : l.length ≤ 1000) :
    Calls Tryz.prog 117 #[v] w fun e w' => e = .returned (.int .i64 (lbsN l : Nat)) ∧ Below w.heap.size w w' := by
  obtain ⟨ao, cap, rfl, h1, h2⟩ := h.form
  have hB := lbsN_le hf
  go_enter Tryz.func117, Tryz.ntmps117
  go_wp2_with fail
  go_loopw [2, 7] (fun n i wr => ∃ k : Nat, k ≤ l.length ∧ i = .int .i64 k ∧ n = .int .i64 (lbsN (l.take k) : Nat) ∧ Below w.heap.size w wr) (fun _ i _ => l.length - (intOf i).toNat)
  case atStart => exact ⟨0, Nat.zero_le _, rfl, rfl, Below.refl _ _⟩
  case round => as_aux_lemma =>
    obtain ⟨k, hk, rfl, rfl, hbel⟩ := hrel
    by_cases hlt : k < l.length
    · obtain ⟨b, off, rfl, hb, hc⟩ := h.at_ (by omega)
      obtain ⟨c0, c1⟩ := hc k hlt
      have d0 := (hbel.cell (p := ⟨b, off + k * 2, none⟩) hb).trans c0
      have d1 := (hbel.cell (p := ⟨b, off + k * 2 + 1, none⟩) hb).trans c1
      have hx := hf _ (List.getElem_mem hlt)
      have HT := Lib.hid (lbsN_take hlt)
      have hle := lbsN_take_le l k
      have hxl := lbN_le hx.1 hx.2
      clear c0 c1 hc
      generalize l[k] = x at *
      obtain ⟨x1, x2⟩ := x
      simp only at d0 d1
      have i0 : (0 : Int) ≤ (k : Int) := by omega
      have i1 : (k : Int) < (l.length : Int) := by omega
      have hN := Blk.new wr [.string x1, .string x2] LT
      have hA : LAt (wr.alloc (.cells #[.string x1, .string x2] LT)) wr.heap.size 0 (x1, x2) := ⟨hN.cell 0, hN.cell 1⟩
      have hS := labelSize_any _ _ _ _ hA hx.1 hx.2
      have hb2 := hbel.alloc hbel.size (.cells #[.string x1, .string x2] LT)
      generalize lbN (x1, x2) = q at *
      generalize lbsN (l.take k) = p at *
      go_wp2_with (first | ((with_reducible refine hS.mono ?_); rintro e w' ⟨rfl, rfl⟩) | fail)
      go_roundw
      case rel => exact ⟨k + 1, by omega, by go_num, by rw [HT.out]; go_num, hb2⟩
      case measure => simp [intOf]; omega
    · obtain rfl : k = l.length := by omega
      go_wp2_with fail
      go_ret
      rw [List.take_length]
      exact ⟨rfl, hbel⟩
end Go.Proofs.YtapoodnjkkhggaaGreat
