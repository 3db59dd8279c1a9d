/-
  Data that are put are got again: plain. Encbuf: what each kind of datum puts. Encbuf: numbers of each kind are put.
-/
import Derived.Test.YtkbkggamfkadnaaGreatDoorDyA
import Derived.Test.YtkbkggamfkadnaaGreatDoorRawLaw
import Derived.Lib.EndianMore
import Derived.Test.YtkbkggamfkadnaaGreatDoorPutBE
import Derived.Test.YtkbkggamfkadnaaGreatDoorDxA
namespace Go.Proofs.YtkbkggamfkadnaaGreatDoor
set_option linter.unusedSimpArgs false
set_option linter.unusedVariables false
open Go.RowKit

/-- a datum: its kind, its number, its bytes -/
abbrev It := Nat × Nat × List UInt8
/-- its bytes when it is put -/
def encD (x : It) : List UInt8 :=
  if x.1 = 0 then Lib.beBytes 1 x.2.1
  else if x.1 = 1 ∨ x.1 = 3 then Lib.beBytes 4 x.2.1
  else if x.1 ≤ 5 then Lib.beBytes 8 x.2.1
  else if x.1 ≤ 8 then Lib.uvarint x.2.1
  else if x.1 = 9 then Lib.uvarint (Lib.zigzag (IntKind.i64.wrap (x.2.1 : Int)))
  else if x.1 ≤ 11 then Lib.uvarint x.2.2.length ++ x.2.2
  else x.2.2
/-- a number that its kind can have -/
def FitD (x : It) : Prop := x.1 ≤ 12 ∧ x.2.1 < 18446744073709551616 ∧ (x.1 = 0 → x.2.1 < 256) ∧ (x.1 = 1 ∨ x.1 = 3 ∨ x.1 = 7 → x.2.1 < 4294967296) ∧ (x.1 = 6 → x.2.1 < 9223372036854775808) ∧ x.2.2.length ≤ 300
/-- what is got of it -/
def outD (x : It) : Int × List UInt8 := if x.1 ≤ 9 then ((x.2.1 : Int), []) else if x.1 ≤ 11 then (0, x.2.2) else ((x.2.2.length : Int), [])
/-- the kind that is asked for -/
def kindD (x : It) : Nat × Nat := (x.1, if x.1 = 12 then x.2.2.length else 0)

theorem small_u8 {n : Nat} (h : n < 256) : (n.toUInt8).toNat = n := by
  have := Lib.toUInt8_mod n
  rw [Nat.mod_eq_of_lt h] at this
  exact this
theorem uvar_uvarint : ∀ (k n : Nat) (r : List UInt8), n < 128 ^ (k + 1) → uvar ((Lib.uvarint n ++ r).take (k + 1)) = (n, (Lib.uvarint n).length)
  | 0, n, r, h => by
    have hn : n < 128 := by simpa using h
    have e := small_u8 (n := n) (by omega)
    rw [Lib.uvarint_small hn]
    show uvar [n.toUInt8] = _
    unfold uvar
    rw [e, if_pos hn]; rfl
  | k + 1, n, r, h => by
    by_cases hn : n < 128
    · have e := small_u8 (n := n) (by omega)
      rw [Lib.uvarint_small hn]
      show uvar (n.toUInt8 :: (([] : List UInt8) ++ r).take (k + 1)) = _
      unfold uvar
      rw [e, if_pos hn]; rfl
    · have e := small_u8 (n := n % 128 + 128) (by omega)
      have ih := uvar_uvarint k (n / 128) r (by rw [Nat.pow_succ] at h; exact Nat.div_lt_of_lt_mul (by rw [Nat.mul_comm]; exact h))
      have hp := Lib.uvarint_pos (n / 128)
      rw [Lib.uvarint_big (by omega), List.cons_append, List.take_succ_cons]
      unfold uvar
      rw [ih, e, if_neg (by omega)]
      simp only
      rw [if_neg (by omega), List.length_cons]
      congr 1
      omega
theorem uvarint_top : ∀ (k n : Nat) (r : List UInt8), (Lib.uvarint n).length = k + 1 → ((Lib.uvarint n ++ r).getD k 0).toNat = n / 128 ^ k
  | 0, n, r, h => by
    have hn : n < 128 := by
      apply Classical.byContradiction
      intro hc
      rw [Lib.uvarint_big (by omega), List.length_cons] at h
      have := Lib.uvarint_pos (n / 128)
      omega
    have e := small_u8 (n := n) (by omega)
    rw [Lib.uvarint_small hn]
    show (n.toUInt8).toNat = _
    rw [e]
    simp
  | k + 1, n, r, h => by
    have hn : 128 ≤ n := by
      apply Classical.byContradiction
      intro hc
      rw [Lib.uvarint_small (by omega)] at h
      simp at h
    rw [Lib.uvarint_big hn, List.length_cons] at h
    have ih := uvarint_top k (n / 128) r (by omega)
    rw [Lib.uvarint_big hn, List.cons_append]
    rw [List.getD_cons_succ, ih, Nat.div_div_eq_div_mul, Nat.pow_succ, Nat.mul_comm 128]
theorem decU_uvarint (n : Nat) (r : List UInt8) (h : n < 18446744073709551616) : decU (Lib.uvarint n ++ r) = some (n, r) := by
  have h1 := uvar_uvarint 9 n r (Nat.lt_of_lt_of_le h (by decide))
  have hp := Lib.uvarint_pos n
  have h2 : uOk (Lib.uvarint n ++ r) = true := by
    unfold uOk
    rw [h1]
    simp only [Bool.and_eq_true, Bool.not_eq_true', Bool.and_eq_false_iff, decide_eq_true_eq, decide_eq_false_iff_not]
    refine ⟨by omega, ?_⟩
    by_cases h10 : (Lib.uvarint n).length = 10
    · right
      rw [uvarint_top 9 n r h10]
      have : n / 128 ^ 9 < 2 := Nat.div_lt_of_lt_mul (Nat.lt_of_lt_of_le h (by decide))
      omega
    · left; exact h10
  unfold decU
  rw [if_pos h2, h1]
  simp
theorem zag_zig (x : Int) : zagI (Lib.zigzag x) = x := by
  unfold zagI Lib.zigzag
  split <;> split <;> omega
theorem wrap_back (x : Nat) (hx : x < 18446744073709551616) : IntKind.u64.wrap (IntKind.i64.wrap (x : Int)) = (x : Int) := by
  simp [IntKind.wrap, IntKind.bits, IntKind.signed]
  omega
theorem wrap_i64 (x : Nat) : -9223372036854775808 ≤ IntKind.i64.wrap (x : Int) ∧ IntKind.i64.wrap (x : Int) ≤ 9223372036854775807 := by
  simp [IntKind.wrap, IntKind.bits, IntKind.signed]
  omega
theorem zigzag_lt {x : Int} (h0 : -9223372036854775808 ≤ x) (h1 : x ≤ 9223372036854775807) : Lib.zigzag x < 18446744073709551616 := by
  unfold Lib.zigzag
  split <;> omega
theorem decB_be (k n : Nat) (r : List UInt8) (h : n < 256 ^ k) : decB k (Lib.beBytes k n ++ r) = some (n, r) := by
  have hl := Lib.beBytes_length k n
  unfold decB
  rw [if_pos (by rw [List.length_append]; omega), List.take_left' hl, List.drop_left' hl, Lib.beNat_beBytes k n h]
theorem dec_enc (x : It) (r : List UInt8) (h : FitD x) : decD x.1 (kindD x).2 (encD x ++ r) = some (outD x, r) := by
  obtain ⟨k, n, S⟩ := x
  obtain ⟨h1, h2, h3, h4, h5, h6⟩ := h
  simp only at h1 h2 h3 h4 h5 h6
  have hkk : k = 0 ∨ k = 1 ∨ k = 2 ∨ k = 3 ∨ k = 4 ∨ k = 5 ∨ k = 6 ∨ k = 7 ∨ k = 8 ∨ k = 9 ∨ k = 10 ∨ k = 11 ∨ k = 12 := by omega
  rcases hkk with rfl | rfl | rfl | rfl | rfl | rfl | rfl | rfl | rfl | rfl | rfl | rfl | rfl
  · rw [show encD (0, n, S) = Lib.beBytes 1 n by simp [encD]]
    have hB := decB_be 1 n r (by have := h3 rfl; omega)
    simp [decD, kindD, outD, hB]
  · rw [show encD (1, n, S) = Lib.beBytes 4 n by simp [encD]]
    have hB := decB_be 4 n r (by have := h4 (by omega); omega)
    simp [decD, kindD, outD, hB]
  · rw [show encD (2, n, S) = Lib.beBytes 8 n by simp [encD]]
    have hB := decB_be 8 n r (by omega)
    simp [decD, kindD, outD, hB]
  · rw [show encD (3, n, S) = Lib.beBytes 4 n by simp [encD]]
    have hB := decB_be 4 n r (by have := h4 (by omega); omega)
    simp [decD, kindD, outD, hB]
  · rw [show encD (4, n, S) = Lib.beBytes 8 n by simp [encD]]
    have hB := decB_be 8 n r (by omega)
    simp [decD, kindD, outD, hB]
  · rw [show encD (5, n, S) = Lib.beBytes 8 n by simp [encD]]
    have hB := decB_be 8 n r (by omega)
    simp [decD, kindD, outD, hB]
  · show (decU (Lib.uvarint n ++ r)).map _ = _
    rw [decU_uvarint n r h2]; rfl
  · show (decU (Lib.uvarint n ++ r)).map _ = _
    rw [decU_uvarint n r h2]
    have := h4 (by omega)
    show some (((n : Int) % 4294967296, []), r) = some (((n : Int), []), r)
    rw [show (n : Int) % 4294967296 = n by omega]
  · show (decU (Lib.uvarint n ++ r)).map _ = _
    rw [decU_uvarint n r h2]; rfl
  · show (decU (Lib.uvarint (Lib.zigzag (IntKind.i64.wrap (n : Int))) ++ r)).map _ = _
    obtain ⟨w0, w1⟩ := wrap_i64 n
    rw [decU_uvarint _ r (zigzag_lt w0 w1)]
    show some ((IntKind.u64.wrap (zagI (Lib.zigzag (IntKind.i64.wrap (n : Int)))), []), r) = some (((n : Int), []), r)
    rw [zag_zig, wrap_back n h2]
  · show (decS (Lib.uvarint S.length ++ S ++ r)).map _ = _
    unfold decS
    rw [List.append_assoc, decU_uvarint _ _ (by omega)]
    simp [outD]
  · show (decS (Lib.uvarint S.length ++ S ++ r)).map _ = _
    unfold decS
    rw [List.append_assoc, decU_uvarint _ _ (by omega)]
    simp [outD]
  · rw [show encD (12, n, S) = S by simp [encD]]
    show (if S.length ≤ (S ++ r).length then _ else none) = _
    rw [if_pos (by simp)]
    simp [outD, kindD]

def encs (L : List It) : List UInt8 := L.flatMap encD
theorem encs_cons (x : It) (L : List It) : encs (x :: L) = encD x ++ encs L := by simp [encs]
theorem encs_append (A B : List It) : encs (A ++ B) = encs A ++ encs B := by simp [encs]
def outs : List It → List UInt8 → List ((Int × List UInt8) × Nat)
  | [], _ => []
  | x :: L, t => (outD x, (encs L ++ t).length) :: outs L t
theorem outs_length : ∀ (L : List It) (t : List UInt8), (outs L t).length = L.length
  | [], _ => rfl
  | x :: L, t => by simp [outs, outs_length L t]
theorem outs_get : ∀ (L : List It) (t : List UInt8) (i : Nat) (h : i < L.length), ((outs L t)[i]'(by rw [outs_length]; exact h)).1 = outD L[i]
  | x :: L, t, 0, h => rfl
  | x :: L, t, i + 1, h => by
    simp only [outs, List.getElem_cons_succ]
    exact outs_get L t i (by simpa using h)
theorem outs_last : ∀ (L : List It) (i : Nat) (h : i < L.length), i + 1 = L.length → ((outs L [])[i]'(by rw [outs_length]; exact h)).2 = 0
  | [x], 0, h, _ => rfl
  | x :: y :: L, 0, h, e => by simp at e
  | x :: L, i + 1, h, e => by
    simp only [outs, List.getElem_cons_succ]
    exact outs_last L i (by simpa using h) (by simpa using e)
theorem run_encs : ∀ (A : List It) (xs : List ((Int × List UInt8) × Nat)) (t : List UInt8), (∀ x ∈ A, FitD x) → (A.map kindD).foldl stepD (xs, some (encs A ++ t)) = (xs ++ outs A t, some t)
  | [], xs, t, _ => by simp [encs, outs]
  | x :: A, xs, t, h => by
    have hd := dec_enc x (encs A ++ t) (h x (by simp))
    rw [List.map_cons, List.foldl_cons, encs_cons, List.append_assoc]
    have e : stepD (xs, some (encD x ++ (encs A ++ t))) (kindD x) = (xs ++ [(outD x, (encs A ++ t).length)], some (encs A ++ t)) := by
      unfold stepD
      simp only
      rw [show (kindD x).1 = x.1 from rfl, hd]
    rw [e, run_encs A _ t (fun y hy => h y (by simp [hy])), outs]
    simp
theorem runD_encs (L : List It) (h : ∀ x ∈ L, FitD x) : runD (L.map kindD) (encs L) = (outs L [], some []) := by
  have := run_encs L [] [] h
  rw [List.append_nil] at this
  exact this
theorem encs_fine (L : List It) (h : ∀ x ∈ L, FitD x) : NoHuge (L.map kindD) (encs L) := by
  intro k hk m h2 h10 X r hX
  rw [List.length_map] at hk
  have e : encs L = encs (L.take k) ++ encs (L.drop k) := by rw [← encs_append, List.take_append_drop]
  have h3 : runD ((L.map kindD).take k) (encs L) = (outs (L.take k) (encs (L.drop k)), some (encs (L.drop k))) := by
    rw [← List.map_take, e]
    exact run_encs (L.take k) [] _ (fun x hx => h x (List.mem_of_mem_take hx))
  rw [h3] at h2
  have h2 := Option.some.inj h2
  subst h2
  rw [List.getElem_map] at h10
  have h10' : (L[k]).1 = 10 ∨ (L[k]).1 = 11 := h10
  have hf := h L[k] (List.getElem_mem _)
  rw [List.drop_eq_getElem_cons hk, encs_cons] at hX
  have hE : encD L[k] = Lib.uvarint (L[k]).2.2.length ++ (L[k]).2.2 := by
    unfold encD
    rw [if_neg (by omega), if_neg (by omega), if_neg (by omega), if_neg (by omega), if_neg (by omega), if_pos (by omega)]
  have hl := hf.2.2.2.2.2
  rw [hE, List.append_assoc, decU_uvarint _ _ (by omega)] at hX
  have hX := Option.some.inj hX
  injection hX with hX _
  omega
theorem encD_length (x : It) (h : FitD x) : (encD x).length ≤ 320 := by
  obtain ⟨k, n, S⟩ := x
  obtain ⟨h1, h2, h3, h4, h5, h6⟩ := h
  simp only at h1 h2 h3 h4 h5 h6
  have l1 := Lib.uvarint_length64 h2
  obtain ⟨w0, w1⟩ := wrap_i64 n
  have l2 := Lib.uvarint_length64 (zigzag_lt w0 w1)
  have l3 := Lib.uvarint_length64 (x := S.length) (by omega)
  unfold encD
  simp only
  repeat' split
  all_goals (first | (rw [Lib.beBytes_length]; omega) | omega | (rw [List.length_append]; omega))
theorem encs_length (L : List It) (h : ∀ x ∈ L, FitD x) : (encs L).length ≤ 320 * L.length := by
  induction L with
  | nil => simp [encs]
  | cons x L ih =>
    have h1 := encD_length x (h x (by simp))
    have h2 := ih (fun y hy => h y (by simp [hy]))
    rw [encs_cons, List.length_append, List.length_cons]
    omega
end Go.Proofs.YtkbkggamfkadnaaGreatDoor
namespace Go.Proofs.YtkbkggamfkadnaaGreatDoor
set_option linter.unusedSimpArgs false
set_option linter.unusedVariables false
open Go.RowKit

theorem grown_new {w : World} {base n m : Nat} {xs news : List Value} {z : Value} (hx : xs.length = n) (hl : news.length = m) (hz : z.cells.size = 1) (old : Nat) (ho : old < n + m) (hm : n + m ≤ 2147483648) (hbase : base ≤ w.heap.size) (row : Option Nat) :
    (w.drew.alloc (.cells ((xs ++ news).toArray ++ Builtin.zeroCells z.cells (grownCap w (n + m) old 5 - (n + m))) 5)).ownsRow base 5 1 (.slice (some ⟨w.heap.size, 0, none⟩) (n + m) (grownCap w (n + m) old 5)) (n + m) (xs ++ news) ∧
      w.grownBy (w.drew.alloc (.cells ((xs ++ news).toArray ++ Builtin.zeroCells z.cells (grownCap w (n + m) old 5 - (n + m))) 5)) row := by
  have hge := grownCap_ge w (n + m) old 5
  have hcm : grownCap w (n + m) old 5 ≤ maxLen := grownCap_le_maxLen w (n + m) old 5 (by unfold maxLen; omega)
  have hlen : (xs ++ news).length = (n + m) * 1 := by rw [List.length_append, hx, hl, Nat.mul_one]
  refine ⟨⟨hlen, .inr ⟨w.heap.size, _, _, rfl, hbase, heap_alloc_new w.drew _, hge, hcm, ?_, ?_⟩⟩, ⟨rfl, rfl, rfl, by simp, fun k hk _ => heap_alloc_old w.drew _ hk⟩⟩
  · simp only [Array.size_append, List.size_toArray, size_zeroCells, hz, hlen, ← Nat.add_mul]
    omega
  · simp only [Array.toList_append]
    rw [← hlen]
    exact List.take_left
theorem own_src_append {w : World} {base n : Nat} {v : Value} {xs : List Value} (hown : w.ownsRow base 5 1 v n xs) (tx : TypeId) (x : Value) (m : Nat) (news : List Value) (hs : Src Tryz.prog 1 tx x m news w) (hn : n + m ≤ 2147483648) (hbase : base ≤ w.heap.size) :
    ∃ v' w', (Builtin.append_ #[22, tx] 22 #[v, x]).run Tryz.prog w = .ok v' w' ∧ w'.ownsRow base 5 1 v' (n + m) (xs ++ news) ∧ w.grownBy w' v.ownBlock := by
  obtain ⟨i0, hi, hz0, hz1, hz2⟩ := info_parts infoU8
  have hl : news.length = m := by have := hs.newsLen; omega
  have hs' : Src Tryz.prog i0.size tx x m news w := by rw [hz1]; exact hs
  have hxl : xs.length = n := by have := hown.1; omega
  have hfit : ∀ cap : Nat, cap < n + m → Builtin.nextslicecap (n + m) cap * i0.bytes ≤ 281474976710656 := fun cap h => growslice_fits (by omega) (by rw [hz2]; omega)
  rcases hown.2 with ⟨rfl, rfl⟩ | ⟨g, cap, cur, rfl, hbg, hg, hnc, hcm, hcs, htake⟩
  · obtain rfl : xs = [] := List.eq_nil_of_length_eq_zero hxl
    by_cases hm : m = 0
    · subst hm
      obtain rfl : news = [] := List.eq_nil_of_length_eq_zero hl
      refine ⟨.slice none 0 0, w, ?_, World.ownsRow_nil w base 5 1, ⟨rfl, rfl, rfl, Nat.le_refl _, fun _ _ _ => rfl⟩⟩
      rcases hs'.kind with ⟨e', hk⟩ | hk <;> simp [Builtin.append_, run_underlying Tryz.underlying22, run_underlying hk, sizeOf, typeInfo, hi, hs'.len, hs'.cells, hs'.cellsD]
    · have hr := run_append_grow_src (P := Tryz.prog) w 22 tx 22 5 i0 _ Tryz.underlying22 hi hz0 none 0 0 [] (run_firstCells_none w.drew i0.size 0 0 0) x m news hs' (by omega) (by omega) (hfit 0 (by omega))
      have hgr := grown_new (w := w) (base := base) (n := 0) (xs := []) (z := .int .u8 0) rfl hl rfl 0 (by omega) hn hbase (Value.ownBlock (.slice none 0 0))
      exact ⟨_, _, hr, hgr.1, hgr.2⟩
  · by_cases hroom : n + m ≤ cap
    · have hB : Blk w g cur.toList 5 := by unfold Blk; simpa using hg
      have hr := run_append_room_src (P := Tryz.prog) w 22 tx 22 5 i0 Tryz.underlying22 hi g 0 n cap x m news hs' hroom (fun j hj => by
        rw [hz1, hB.cell, List.getElem?_eq_getElem (by simp; omega)]; rfl) (fun j hj => hB.free _)
      have e0 : 0 + n * i0.size = n := by rw [hz1]; omega
      rw [e0] at hr
      have hb1 := blk_setCells news n _ _ hB (by simp; omega)
      refine ⟨_, _, hr, ⟨by rw [List.length_append, hxl, hl, Nat.mul_one], .inr ⟨g, cap, _, rfl, hbg, hb1, hroom, hcm, ?_, ?_⟩⟩, ?_⟩
      · simp only [List.size_toArray, List.length_append, List.length_take, List.length_drop, Array.length_toList]
        omega
      · have ht : cur.toList.take n = xs := by rw [← htake, Nat.mul_one]
        rw [ht]
        show List.take ((n + m) * 1) (xs ++ news ++ _) = _
        rw [show (n + m) * 1 = (xs ++ news).length by rw [List.length_append, hxl, hl]; omega]
        exact List.take_left
      · have hc := chg_setCells g news n w
        exact ⟨hc.os, hc.tape, hc.output, hc.size, fun k hk hne => hc.block k hk (fun e => hne (by simp [Value.ownBlock, e]))⟩
    · have holds : ∀ j u, xs[j]? = some u → w.cell? ((⟨g, 0, none⟩ : Addr).add j) = some u := hown.cells (g := g) rfl
      have hr := run_append_grow_src (P := Tryz.prog) w 22 tx 22 5 i0 _ Tryz.underlying22 hi hz0 (some ⟨g, 0, none⟩) n cap xs (run_firstCells_some (P := Tryz.prog) w.drew i0.size n ⟨g, 0, none⟩ n cap xs (by rw [hz1]; exact hown.1) (by simpa using holds)) x m news hs' (by omega) (by omega) (hfit cap (by omega))
      have hgr := grown_new (w := w) (base := base) (n := n) (xs := xs) (z := .int .u8 0) hxl hl rfl cap (by omega) hn hbase (Value.ownBlock (.slice (some ⟨g, 0, none⟩) n cap))
      exact ⟨_, _, hr, hgr.1, hgr.2⟩

/-- what is behind a put -/
def PutPost (p base : Nat) (v : Value) (bs L : List UInt8) (w : World) (e : Ending) (w' : World) : Prop := e = .returned (.tuple #[]) ∧ ∃ v', Enc w' p base v' (bs ++ L) ∧ Chg (fun k => p ≤ k) w w'
theorem enc_up {w : World} {p base : Nat} {v : Value} {bs : List UInt8} (h : Enc w p base v bs) : ∀ k, (k = p ∨ some k = v.ownBlock) → p ≤ k := fun k hk => by
  have := h.low
  rcases hk with hk | hk
  · omega
  · have := (h.own.lt k hk.symm).1; omega
theorem bytes_app (bs L : List UInt8) : Lib.byteCells (bs ++ L) = Lib.byteCells bs ++ Lib.byteCells L := by simp [Lib.byteCells]
theorem enc_facts {W w1 : World} {p base : Nat} {v : Value} {bs : List UInt8} (h : Enc W p base v bs) (hg : W.grownBy w1 v.ownBlock) : w1.frozen? ⟨p, 0, none⟩ = false ∧ w1.cell? ⟨p, 0, none⟩ = some v := by
  obtain ⟨⟨C, hb, hC⟩, ho, hlow⟩ := h
  have hb1 := hb.chg (Chg.ofGrown hg) (fun c => by have := (ho.lt p c.symm).1; omega)
  exact ⟨hb1.free 0, hb1.cell 0⟩
theorem enc_store {w W w1 : World} {p base : Nat} {v v1 : Value} {bs L : List UInt8} (h : Enc W p base v bs) (hcW : Chg (fun k => p ≤ k) w W) (ho1 : w1.ownsRow base 5 1 v1 (bs.length + L.length) (Lib.byteCells bs ++ Lib.byteCells L)) (hg : W.grownBy w1 v.ownBlock) : PutPost p base v bs L w (.returned (.tuple #[])) (w1.setCell ⟨p, 0, none⟩ v1) := by
  have hup := enc_up h
  obtain ⟨⟨C, hb, hC⟩, ho, hlow⟩ := h
  have hb1 := hb.chg (Chg.ofGrown hg) (fun c => by have := (ho.lt p c.symm).1; omega)
  have hcg : Chg (fun k => p ≤ k) W w1 := (Chg.ofGrown hg).mono (fun k hk => hup k (.inr hk))
  refine ⟨rfl, v1, ⟨⟨C, hb1.set 0 v1, hC⟩, ?_, hlow⟩, (hcW.trans hcg).setCell ⟨p, 0, none⟩ (Nat.le_refl _) v1⟩
  rw [List.length_append, bytes_app]
  exact own_chg ho1 (chg_set w1 p 0 v1) (fun g h1 _ => by omega)

set_option maxRecDepth 100000 in
set_option maxHeartbeats 2000000 in
theorem putByte_any (p base : Nat) (x : UInt8) (v : Value) (bs : List UInt8) (w : World) (h : Enc w p base v bs) (hn : bs.length ≤ 1000000000) (hbase : base ≤ w.heap.size) :
    Calls Tryz.prog 28 #[.pointer (some ⟨p, 0, none⟩), .int .u8 x.toNat] w (PutPost p base v bs [x] w) := by
  obtain ⟨va, vc, rfl⟩ := own_form h.own
  obtain ⟨i0, hi, hz0, hz1, hz2⟩ := info_parts infoU8
  have hA : Enc (w.alloc (.cells #[.int .u8 x.toNat] 5)) p base (.slice va bs.length vc) bs := h.chg ((Chg.refl (fun _ => False) w).alloc _) (fun h => h) (fun _ _ _ h => h)
  have hcA : Chg (fun k => p ≤ k) w (w.alloc (.cells #[.int .u8 x.toNat] 5)) := (Chg.refl _ w).alloc _
  obtain ⟨⟨C, hb, hC⟩, _, _⟩ := h
  have c0 := hb.cell 0
  go_enter Tryz.func28, Tryz.ntmps28
  go_wp2_with (first
    | (at_builtin; refine list_app 22 5 i0 _ 1 1 rfl (.tmp 8) (.tmp 10) rfl rfl Tryz.underlying22 hi hz0 hz1 hz2 rfl (by decide) (by decide) base (.slice va bs.length vc) bs.length (Lib.byteCells bs) rfl hA.own w.heap.size rfl [.int .u8 x.toNat] rfl (heap_alloc_new w _) (one1 _ _) (by omega) (by simp; omega) ?_; intro v1 w1 ho1 hg1; obtain ⟨a1, c1, rfl⟩ := own_form ho1; obtain ⟨z1, e1⟩ := enc_facts hA hg1)
    | fail)
  go_end0
  exact enc_store (L := [x]) hA hcA ho1 hg1
set_option maxRecDepth 100000 in
set_option maxHeartbeats 2000000 in
theorem putString_any (p base : Nat) (s : ByteArray) (v : Value) (bs : List UInt8) (w : World) (h : Enc w p base v bs) (hn : bs.length ≤ 1000000000) (hs : s.size ≤ 1000000000) (hbase : base ≤ w.heap.size) :
    Calls Tryz.prog 41 #[.pointer (some ⟨p, 0, none⟩), .string s] w (PutPost p base v bs s.data.toList w) := by
  have hsl : s.data.toList.length = s.size := by rw [Array.length_toList]; rfl
  obtain ⟨v1, w1, hr, ho1, hg1⟩ := own_src_append h.own 9 (.string s) s.size (byteCells s) (Src.ofString w Tryz.underlying9 s) (by omega) hbase
  obtain ⟨va, vc, rfl⟩ := own_form h.own
  obtain ⟨a1, c1, rfl⟩ := own_form ho1
  obtain ⟨z1, e1⟩ := enc_facts h hg1
  have h0 := h
  obtain ⟨⟨C, hb, hC⟩, _, _⟩ := h
  have c0 := hb.cell 0
  have HR := Lib.hid hr
  clear hr
  go_enter Tryz.func41, Tryz.ntmps41
  go_wp2_with (first
    | (at_builtin; refine list_run 22 9 rfl (.tmp 8) (.tmp 9) rfl rfl rfl rfl HR.out ?_)
    | fail)
  go_end0
  exact enc_store (L := s.data.toList) h0 (Chg.refl _ _) (by rw [hsl]; exact ho1) hg1
theorem src_bytes {w : World} {x : Value} {L : List UInt8} (h : Bytes w x L) : ∃ a c, x = .slice a L.length c ∧ Src Tryz.prog 1 22 x L.length (Lib.byteCells L) w := by
  obtain ⟨ao, cap, rfl, h1, h2⟩ := h.form
  refine ⟨ao, cap, rfl, ?_⟩
  rcases Nat.eq_zero_or_pos L.length with h0 | h0
  · obtain rfl : L = [] := List.length_eq_zero_iff.1 h0
    cases ao with
    | none => exact Src.ofNil w Tryz.underlying22 cap
    | some a => exact Src.ofSlice w Tryz.underlying22 a 0 cap [] rfl (fun j u hj => by simp at hj) (fun u hu => by simp at hu)
  · obtain ⟨b, off, rfl, hb, hc⟩ := h.at_ h0
    exact Src.ofSlice w Tryz.underlying22 ⟨b, off, none⟩ L.length cap (Lib.byteCells L) (by rw [Lib.byteCells_length, Nat.mul_one]) (fun j u hj => by
      rw [getElem?_bytes] at hj
      have hjl : j < L.length := by
        rcases Nat.lt_or_ge j L.length with h | h
        · exact h
        · rw [List.getElem?_eq_none h] at hj; cases hj
      rw [List.getElem?_eq_getElem hjl] at hj
      simp at hj
      subst hj
      rw [add_cell]
      exact hc j hjl) (one_bytes L)
set_option maxRecDepth 100000 in
set_option maxHeartbeats 2000000 in
theorem putBytes_any (p base : Nat) (x : Value) (L : List UInt8) (v : Value) (bs : List UInt8) (w : World) (h : Enc w p base v bs) (hx : Bytes w x L) (hn : bs.length ≤ 1000000000) (hs : L.length ≤ 1000000000) (hbase : base ≤ w.heap.size) :
    Calls Tryz.prog 79 #[.pointer (some ⟨p, 0, none⟩), x] w (PutPost p base v bs L w) := by
  obtain ⟨xa, xc, rfl, hsrc⟩ := src_bytes hx
  obtain ⟨v1, w1, hr, ho1, hg1⟩ := own_src_append h.own 22 _ _ _ hsrc (by omega) hbase
  obtain ⟨va, vc, rfl⟩ := own_form h.own
  obtain ⟨a1, c1, rfl⟩ := own_form ho1
  obtain ⟨z1, e1⟩ := enc_facts h hg1
  have h0 := h
  obtain ⟨⟨C, hb, hC⟩, _, _⟩ := h
  have c0 := hb.cell 0
  have HR := Lib.hid hr
  clear hr
  go_enter Tryz.func79, Tryz.ntmps79
  go_wp2_with (first
    | (at_builtin; refine list_run 22 22 rfl (.tmp 8) (.tmp 9) rfl rfl rfl rfl HR.out ?_)
    | fail)
  go_end0
  exact enc_store (L := L) h0 (Chg.refl _ _) ho1 hg1
end Go.Proofs.YtkbkggamfkadnaaGreatDoor
namespace Go.Proofs.YtkbkggamfkadnaaGreatDoor
set_option linter.unusedSimpArgs false
set_option linter.unusedVariables false
open Go.RowKit

set_option maxRecDepth 100000 in
set_option maxHeartbeats 2000000 in
theorem putBE64_any (p base x : Nat) (v : Value) (bs : List UInt8) (w : World) (h : Enc w p base v bs) (hx : x < 18446744073709551616) (hn : bs.length ≤ 1000000000) (hbase : base ≤ w.heap.size) :
    Calls Tryz.prog 30 #[.pointer (some ⟨p, 0, none⟩), .int .u64 x] w fun e w' => e = .returned (.tuple #[]) ∧ ∃ v', Enc w' p base v' (bs ++ Lib.beBytes 8 x) ∧ Chg (fun k => k = p ∨ some k = v.ownBlock) w w' := by
  obtain ⟨⟨C, hb, hC⟩, ho, hlow⟩ := h
  have hlen : (Lib.beBytes 8 x).length = 8 := Lib.beBytes_length 8 x
  have hbc := Lib.byteCells_length (Lib.beBytes 8 x)
  rw [hlen] at hbc
  have hone := one_bytes (Lib.beBytes 8 x)
  have hap : Lib.byteCells (bs ++ Lib.beBytes 8 x) = Lib.byteCells bs ++ Lib.byteCells (Lib.beBytes 8 x) := by simp [Lib.byteCells]
  have hcl : ∀ j, j < 10 → ∃ u, w.cell? ⟨p, 1 + j, none⟩ = some u := fun j hj => ⟨C[j]'(by omega), by rw [hb.cell, Nat.add_comm 1 j, List.getElem?_cons_succ, List.getElem?_eq_getElem]⟩
  obtain ⟨x0, y0⟩ := hcl 0 (by omega)
  obtain ⟨x1, y1⟩ := hcl 1 (by omega)
  obtain ⟨x2, y2⟩ := hcl 2 (by omega)
  obtain ⟨x3, y3⟩ := hcl 3 (by omega)
  obtain ⟨x4, y4⟩ := hcl 4 (by omega)
  obtain ⟨x5, y5⟩ := hcl 5 (by omega)
  obtain ⟨x6, y6⟩ := hcl 6 (by omega)
  obtain ⟨x7, y7⟩ := hcl 7 (by omega)
  have hput := Tryz.binary_BE_PutUint64 p 1 10 10 x hx x0 x1 x2 x3 x4 x5 x6 x7 w.drew (by omega) y0 y1 y2 y3 y4 y5 y6 y7 (hb.free _) (hb.free _) (hb.free _) (hb.free _) (hb.free _) (hb.free _) (hb.free _) (hb.free _)
  have hbn := hb.drew.alloc (.cells #[] 105)
  have hon := own_alloc (own_drew ho) (.cells #[] 105)
  have hcn := (Chg.refl (fun k => k = p) w).drew.alloc (.cells #[] 105)
  generalize w.drew.alloc _ = W at *
  have hb1 := blk_setCells (Lib.byteCells (Lib.beBytes 8 x)) 1 _ _ hbn (by simp; omega)
  have hc1 := hcn.trans (chg_setCells p (Lib.byteCells (Lib.beBytes 8 x)) 1 W)
  have ho1 := own_chg hon (chg_setCells p (Lib.byteCells (Lib.beBytes 8 x)) 1 W) (fun g h1 _ => by omega)
  generalize hbs : Lib.byteCells (Lib.beBytes 8 x) = us at *
  generalize W.setCells p 1 us = w1 at *
  have hz1 := hc1.size
  obtain ⟨v', w2, hr, ho2, hg2⟩ := own_bytes_append (own_drew ho1) p 1 8 10 us hbc (fun j u hj => by
    have : w1.cell? ⟨p, 1 + j, none⟩ = some u := by
      rw [hb1.cell, List.append_assoc, List.getElem?_append_right (by simp), List.getElem?_append_left (by simp; have := (List.getElem?_eq_some_iff.1 hj).1; omega)]
      simpa using hj
    exact this) hone (by omega) (Nat.le_trans hbase hz1)
  obtain ⟨va, vc, rfl⟩ := own_form ho2
  have c0 : w1.cell? ⟨p, 0, none⟩ = some v := by rw [hb1.cell]; simp
  have hc2 : Chg (fun k => some k = v.ownBlock) w1 w2 := ((Chg.refl _ w1).drew).trans (Chg.ofGrown hg2)
  have hb2 := hb1.chg hc2 (fun c => by have := (ho1.lt p c.symm).1; omega)
  have z2 := hb2.free 0
  have e2 : w2.cell? ⟨p, 0, none⟩ = some v := by rw [hb2.cell]; simp
  have hb3 := hb2.set 0 (.slice va (bs.length + 8) vc)
  have hc3 := (((hc1.mono (T := fun k => k = p ∨ some k = v.ownBlock) fun k hk => .inl hk).trans (hc2.mono fun k hk => .inr hk)).setCell ⟨p, 0, none⟩ (.inl rfl) (.slice va (bs.length + 8) vc))
  have HR := Lib.hid hr
  have HB := Lib.hid hbc
  clear hr hbc
  go_enter Tryz.func30, Tryz.ntmps30
  go_wp2_with fail
  go_region_with (first | (go_at_call 74; refine hput.mono ?_; rintro e w' ⟨rfl, hw⟩; have hw := hw.symm; subst hw) | fail)
  go_wp2_with fail
  have hr := HR.out
  clear HR
  have d0 : w1.drew.cell? ⟨p, 0, none⟩ = some v := c0
  go_region_law (first | (refine step_run 22 22 rfl (.tmp 15) (.tmp 19) rfl rfl rfl rfl hr ?_) | fail)
  have hbc := HB.out
  go_end0
  refine ⟨rfl, _, ⟨⟨us ++ List.drop (1 + us.length) (v :: C), hb3, by simp; omega⟩, ?_, hlow⟩, hc3⟩
  rw [List.length_append, hlen, hap]
  exact own_chg ho2 (chg_set w2 p 0 (.slice va (bs.length + 8) vc)) (fun g h _ => by omega)
set_option maxRecDepth 100000 in
set_option maxHeartbeats 2000000 in
theorem putVarint64_any (p base : Nat) (x : Int) (v : Value) (bs : List UInt8) (w : World) (h : Enc w p base v bs) (hx0 : -9223372036854775808 ≤ x) (hx1 : x ≤ 9223372036854775807) (hn : bs.length ≤ 1000000000) (hbase : base ≤ w.heap.size) :
    Calls Tryz.prog 38 #[.pointer (some ⟨p, 0, none⟩), .int .i64 x] w fun e w' => e = .returned (.tuple #[]) ∧ ∃ v', Enc w' p base v' (bs ++ Lib.uvarint (Lib.zigzag x)) ∧ Chg (fun k => k = p ∨ some k = v.ownBlock) w w' := by
  obtain ⟨⟨C, hb, hC⟩, ho, hlow⟩ := h
  have hlen := Lib.uvarint_length64 (zigzag_lt hx0 hx1)
  have hbc := Lib.byteCells_length (Lib.uvarint (Lib.zigzag x))
  have hone := one_bytes (Lib.uvarint (Lib.zigzag x))
  have hap : Lib.byteCells (bs ++ Lib.uvarint (Lib.zigzag x)) = Lib.byteCells bs ++ Lib.byteCells (Lib.uvarint (Lib.zigzag x)) := by simp [Lib.byteCells]
  have hcell : ∀ j, j < (Lib.uvarint (Lib.zigzag x)).length → (w.cell? ⟨p, 1 + j, none⟩).isSome = true ∧ w.frozen? ⟨p, 1 + j, none⟩ = false := fun j hj => by
    rw [hb.cell, List.getElem?_eq_getElem (by simp; omega)]
    exact ⟨rfl, hb.free _⟩
  have hb1 := blk_setCells (Lib.byteCells (Lib.uvarint (Lib.zigzag x))) 1 _ _ hb (by simp; omega)
  have hc1 := chg_setCells p (Lib.byteCells (Lib.uvarint (Lib.zigzag x))) 1 w
  have ho1 := own_chg ho hc1 (fun g h1 _ => by omega)
  have hput := Tryz.binary_PutVarint p 1 10 10 x hx0 hx1 w (by omega) hcell
  generalize hbs : Lib.byteCells (Lib.uvarint (Lib.zigzag x)) = us at *
  generalize w.setCells p 1 us = w1 at *
  generalize (Lib.uvarint (Lib.zigzag x)).length = n at *
  have hz1 := hc1.size
  obtain ⟨v', w2, hr, ho2, hg2⟩ := own_bytes_append (own_drew ho1) p 1 n 10 us hbc (fun j u hj => by
    have : w1.cell? ⟨p, 1 + j, none⟩ = some u := by
      rw [hb1.cell, List.append_assoc, List.getElem?_append_right (by simp), List.getElem?_append_left (by simp; have := (List.getElem?_eq_some_iff.1 hj).1; omega)]
      simpa using hj
    exact this) hone (by omega) (Nat.le_trans hbase hz1)
  obtain ⟨va, vc, rfl⟩ := own_form ho2
  have c0 : w1.cell? ⟨p, 0, none⟩ = some v := by rw [hb1.cell]; simp
  have hc2 : Chg (fun k => some k = v.ownBlock) w1 w2 := ((Chg.refl _ w1).drew).trans (Chg.ofGrown hg2)
  have hb2 := hb1.chg hc2 (fun c => by have := (ho1.lt p c.symm).1; omega)
  have z2 := hb2.free 0
  have e2 : w2.cell? ⟨p, 0, none⟩ = some v := by rw [hb2.cell]; simp
  have hb3 := hb2.set 0 (.slice va (bs.length + n) vc)
  have hc3 := (((hc1.mono (T := fun k => k = p ∨ some k = v.ownBlock) fun k hk => .inl hk).trans (hc2.mono fun k hk => .inr hk)).setCell ⟨p, 0, none⟩ (.inl rfl) (.slice va (bs.length + n) vc))
  have n0 : (0 : Int) ≤ (n : Int) := by omega
  have n1 : (n : Int) ≤ 10 := by omega
  have HR := Lib.hid hr
  have HB := Lib.hid hbc
  clear hr hbc
  go_enter Tryz.func38, Tryz.ntmps38
  go_wp2_with (first | (go_at_call 78; refine hput.mono ?_; rintro e w' ⟨rfl, hw⟩; have hw := hw.symm; subst hw) | fail)
  have hr := HR.out
  clear HR
  have d0 : w1.drew.cell? ⟨p, 0, none⟩ = some v := c0
  go_region_law (first | (refine step_run 22 22 rfl (.tmp 15) (.tmp 20) rfl rfl rfl rfl hr ?_) | fail)
  have hbc := HB.out
  have hE : (bs ++ Lib.uvarint (Lib.zigzag x)).length = bs.length + n := by
    rw [List.length_append]
    have := congrArg List.length hbs
    rw [Lib.byteCells_length] at this
    omega
  go_end0
  refine ⟨rfl, _, ⟨⟨us ++ List.drop (1 + us.length) (v :: C), hb3, by simp; omega⟩, ?_, hlow⟩, hc3⟩
  rw [hE, hap]
  exact own_chg ho2 (chg_set w2 p 0 (.slice va (bs.length + n) vc)) (fun g h _ => by omega)

def EncPut (f : FuncId) (arg : Value) (L : List UInt8) : Prop := ∀ (p base : Nat) (v : Value) (bs : List UInt8) (w : World), Enc w p base v bs → bs.length ≤ 1000000000 → base ≤ w.heap.size → Calls Tryz.prog f #[.pointer (some ⟨p, 0, none⟩), arg] w (PutPost p base v bs L w)
theorem uvarint64_put (x : Nat) (hx : x < 18446744073709551616) : EncPut 37 (.int .u64 x) (Lib.uvarint x) := fun p base v bs w h hn hb => (putUvarint64_any p base x v bs w h hx hn hb).mono fun _ _ ⟨a, v1, b, c⟩ => ⟨a, v1, b, c.mono (enc_up h)⟩
theorem be32_put (x : Nat) (hx : x < 4294967296) : EncPut 29 (.int .u32 x) (Lib.beBytes 4 x) := fun p base v bs w h hn hb => (putBE32_any p base x v bs w h hx hn hb).mono fun _ _ ⟨a, v1, b, c⟩ => ⟨a, v1, b, c.mono (enc_up h)⟩
theorem be64_put (x : Nat) (hx : x < 18446744073709551616) : EncPut 30 (.int .u64 x) (Lib.beBytes 8 x) := fun p base v bs w h hn hb => (putBE64_any p base x v bs w h hx hn hb).mono fun _ _ ⟨a, v1, b, c⟩ => ⟨a, v1, b, c.mono (enc_up h)⟩
theorem varint64_put (x : Int) (h0 : -9223372036854775808 ≤ x) (h1 : x ≤ 9223372036854775807) : EncPut 38 (.int .i64 x) (Lib.uvarint (Lib.zigzag x)) := fun p base v bs w h hn hb => (putVarint64_any p base x v bs w h h0 h1 hn hb).mono fun _ _ ⟨a, v1, b, c⟩ => ⟨a, v1, b, c.mono (enc_up h)⟩
theorem be32int_put (x : Nat) (hx : x < 4294967296) : EncPut 31 (.int .i64 x) (Lib.beBytes 4 x) := by
  intro p base v bs w h hn hb
  have hP := be32_put x hx p base v bs w h hn hb
  have hx0 : (0 : Int) ≤ (x : Int) := by omega
  have hx1 : (x : Int) < 4294967296 := by omega
  go_enter Tryz.func31, Tryz.ntmps31
  go_wp2_with (first | (go_at_call 29; refine hP.mono ?_; rintro e w1 ⟨rfl, v1, hE1, hc1⟩) | fail)
  go_end0
  exact ⟨rfl, v1, hE1, hc1⟩
theorem be64int_put (x : Nat) (hx : x < 18446744073709551616) : EncPut 32 (.int .i64 (IntKind.i64.wrap (x : Int))) (Lib.beBytes 8 x) := by
  intro p base v bs w h hn hb
  have hP := be64_put x hx p base v bs w h hn hb
  have hw := wrap_back x hx
  obtain ⟨h0, h1⟩ := wrap_i64 x
  generalize IntKind.i64.wrap (x : Int) = y at *
  go_enter Tryz.func32, Tryz.ntmps32
  go_wp2_with fail
  refine hP.mono ?_
  rintro e w1 ⟨rfl, v1, hE1, hc1⟩
  go_wp2_with fail
  go_end0
  exact ⟨rfl, v1, hE1, hc1⟩
theorem bef64_put (x : Nat) (hx : x < 18446744073709551616) : EncPut 33 (.float .f64 x) (Lib.beBytes 8 x) := by
  intro p base v bs w h hn hb
  have hP := be64_put x hx p base v bs w h hn hb
  have hx := f64bits
  go_enter Tryz.func33, Tryz.ntmps33
  go_wp2_with fail
  refine hP.mono ?_
  rintro e w1 ⟨rfl, v1, hE1, hc1⟩
  go_wp2_with fail
  go_end0
  exact ⟨rfl, v1, hE1, hc1⟩
theorem uvint_put (x : Nat) (hx : x < 9223372036854775808) : EncPut 35 (.int .i64 x) (Lib.uvarint x) := by
  intro p base v bs w h hn hb
  have hP := uvarint64_put x (by omega) p base v bs w h hn hb
  have hx0 : (0 : Int) ≤ (x : Int) := by omega
  have hx1 : (x : Int) ≤ 9223372036854775807 := by omega
  go_enter Tryz.func35, Tryz.ntmps35
  go_wp2_with (first | (go_at_call 37; refine hP.mono ?_; rintro e w1 ⟨rfl, v1, hE1, hc1⟩) | fail)
  go_end0
  exact ⟨rfl, v1, hE1, hc1⟩
theorem uv32_put (x : Nat) (hx : x < 4294967296) : EncPut 36 (.int .u32 x) (Lib.uvarint x) := by
  intro p base v bs w h hn hb
  have hP := uvarint64_put x (by omega) p base v bs w h hn hb
  have hx0 : (0 : Int) ≤ (x : Int) := by omega
  have hx1 : (x : Int) ≤ 4294967295 := by omega
  go_enter Tryz.func36, Tryz.ntmps36
  go_wp2_with (first | (go_at_call 37; refine hP.mono ?_; rintro e w1 ⟨rfl, v1, hE1, hc1⟩) | fail)
  go_end0
  exact ⟨rfl, v1, hE1, hc1⟩
theorem uvstr_put (s : ByteArray) (hs : s.size ≤ 100000) (p base : Nat) (v : Value) (bs : List UInt8) (w : World) (h : Enc w p base v bs) (hn : bs.length ≤ 900000000) (hb : base ≤ w.heap.size) :
    Calls Tryz.prog 39 #[.pointer (some ⟨p, 0, none⟩), .string s] w (PutPost p base v bs (Lib.uvarint s.size ++ s.data.toList) w) := by
  have hP := uvint_put s.size (by omega) p base v bs w h (by omega) hb
  have hl := Lib.uvarint_length64 (x := s.size) (by omega)
  have hS := fun v1 w1 (hE : Enc w1 p base v1 (bs ++ Lib.uvarint s.size)) (hz : w.heap.size ≤ w1.heap.size) => putString_any p base s v1 _ w1 hE (by rw [List.length_append]; omega) (by omega) (by omega)
  go_enter Tryz.func39, Tryz.ntmps39
  go_wp2_with fail
  refine hP.mono ?_
  rintro e w1 ⟨rfl, v1, hE1, hc1⟩
  go_wp2_with fail
  refine (hS v1 w1 hE1 hc1.size).mono ?_
  rintro e w2 ⟨rfl, v2, hE2, hc2⟩
  go_wp2_with fail
  go_end0
  exact ⟨rfl, v2, by rw [← List.append_assoc]; exact hE2, hc1.trans hc2⟩
theorem uvbytes_put (x : Value) (L : List UInt8) (hL : L.length ≤ 100000) (p base : Nat) (v : Value) (bs : List UInt8) (w : World) (h : Enc w p base v bs) (hx : BB w p x L) (hn : bs.length ≤ 900000000) (hb : base ≤ w.heap.size) :
    Calls Tryz.prog 40 #[.pointer (some ⟨p, 0, none⟩), x] w (PutPost p base v bs (Lib.uvarint L.length ++ L) w) := by
  have hP := uvint_put L.length (by omega) p base v bs w h (by omega) hb
  have hl := Lib.uvarint_length64 (x := L.length) (by omega)
  have hlow := h.low
  have hS := fun v1 w1 (hE : Enc w1 p base v1 (bs ++ Lib.uvarint L.length)) (hc : Chg (fun k => p ≤ k) w w1) => putBytes_any p base x L v1 _ w1 hE (Sl.mono (Sl.below hx (hc.below p (by omega) (fun k hk h => by omega)) (Nat.le_refl _)) (by have := hc.size; omega) (Nat.le_refl _)) (by rw [List.length_append]; omega) (by omega) (by have := hc.size; omega)
  obtain ⟨xa, xc, rfl, _, _⟩ := hx.form
  go_enter Tryz.func40, Tryz.ntmps40
  go_wp2_with fail
  refine hP.mono ?_
  rintro e w1 ⟨rfl, v1, hE1, hc1⟩
  go_wp2_with fail
  refine (hS v1 w1 hE1 hc1).mono ?_
  rintro e w2 ⟨rfl, v2, hE2, hc2⟩
  go_wp2_with fail
  go_end0
  exact ⟨rfl, v2, by rw [← List.append_assoc]; exact hE2, hc1.trans hc2⟩
end Go.Proofs.YtkbkggamfkadnaaGreatDoor
