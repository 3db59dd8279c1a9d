/-
  impl.MockPlay: the samples' timestamps and values in two slices, and the steps over the mock iterator.
-/
import Derived.Test.YtmnfojolielnlaaPlayed
namespace Go.Proofs.Ytmnfojolielnlaa
set_option linter.unusedSimpArgs false
set_option linter.unusedVariables false
open Go.RowKit

theorem keep2_grown {w w' : World} {base size n : Nat} {e : TypeId} {v : Value} {xs : List Value} (h : w.ownsRow base e size v n xs) (hg : w.grownBy w' v.ownBlock) {b : Nat} {cs : List Value} {t : TypeId} (hk : w.heap[b]? = some (.cells cs.toArray t (0, 0))) (ht : t ≠ e) {u0 u1 : Value} (h0 : cs[0]? = some u0) (h1 : cs[1]? = some u1) :
    w'.cell? ⟨b, 0, none⟩ = some u0 ∧ w'.cell? ⟨b, 1, none⟩ = some u1 := by
  have := grown_keep h hg hk ht
  exact ⟨by rw [cell_of_block this, h0], by rw [cell_of_block this, h1]⟩
theorem keep2_alloc_drew {w : World} {b : Nat} {u0 u1 : Value} (h : w.cell? ⟨b, 0, none⟩ = some u0 ∧ w.cell? ⟨b, 1, none⟩ = some u1) (o : Obj) : (w.alloc o).drew.cell? ⟨b, 0, none⟩ = some u0 ∧ (w.alloc o).drew.cell? ⟨b, 1, none⟩ = some u1 := keep2_alloc h o
theorem ints_own {w : World} {base e : Nat} {l : List (Int × Nat)} {v : Value} {B : Nat} (h : w.ownsRow base e 1 v l.length (l.map fun z => .int .i64 z.1)) (hB : B = w.heap.size) : Ints w B .i64 v (l.map (·.1)) := by
  subst hB
  refine Ints.own (base := base) (e := e) (n := l.length) ?_
  rw [List.map_map]
  exact h
theorem floats_own {w : World} {base e : Nat} {l : List (Int × Nat)} {v : Value} {B : Nat} (h : w.ownsRow base e 1 v l.length (l.map fun z => .float .f64 z.2)) (hB : B = w.heap.size) : Floats w B v (l.map (·.2)) := by
  subst hB
  refine Floats.own (base := base) (e := e) (n := l.length) ?_
  rw [List.map_map]
  exact h

set_option maxRecDepth 100000 in
set_option maxHeartbeats 4000000 in
theorem mockPlay_any (lv sv : Value) (l : List (Int × Nat)) (st : List (Bool × Int)) (B : Nat) (w : World) (hL : Pairs w B .i64 .u64 lv (zs l)) (hS : Steps w B sv st) (hB : B ≤ w.heap.size) (h0 : ∀ x ∈ st, x = (false, 0)) (hl : l.length ≤ 2147483646) (hm : st.length ≤ 2147483646) :
    Calls Try.prog 7 #[lv, sv] w fun e w' => ∃ v', e = .returned v' ∧ Answers w' w'.heap.size v' (ansL l st.length) ∧ Below w.heap.size w w' := by
  obtain ⟨iI, hiI, hiI0, hiI1, hiI2⟩ := info_parts infoI64
  obtain ⟨iF, hiF, hiF0, hiF1, hiF2⟩ := info_parts infoF64
  obtain ⟨lo, lc, rfl, hl1, hl2⟩ := hL.form
  simp only [List.length_map] at *
  go_enter Try.func7, Try.ntmps7
  go_wp2_with fail
  go_loopw [5, 6, 11] (fun t v i wr => ∃ k : Nat, k ≤ l.length ∧ i = .int .i64 k ∧ wr.ownsRow w.heap.size 2 1 t k ((l.take k).map fun z => .int .i64 z.1) ∧ wr.ownsRow w.heap.size 49 1 v k ((l.take k).map fun z => .float .f64 z.2) ∧ Below w.heap.size w wr) (fun _ _ i _ => l.length - (intOf i).toNat)
  case atStart => exact ⟨0, Nat.zero_le _, rfl, World.ownsRow_nil _ _ _ _, World.ownsRow_nil _ _ _ _, Below.refl _ _⟩
  case round => as_aux_lemma =>
    obtain ⟨k, hk, rfl, hoT, hoV, hbel⟩ := hrel
    obtain ⟨ta, tc, rfl⟩ := own_form hoT
    obtain ⟨va, vc, rfl⟩ := own_form hoV
    by_cases hlt : k < l.length
    · obtain ⟨b, off, rfl, hbB, hBw, hc⟩ := hL.at_ (by simp; omega)
      obtain ⟨c0, c1⟩ := hc k (by simpa using hlt)
      have c0' := (hbel.cell (p := ⟨b, off + k * 2, none⟩) (show b < w.heap.size by omega)).trans c0
      have c1' := (hbel.cell (p := ⟨b, off + k * 2 + 1, none⟩) (show b < w.heap.size by omega)).trans c1
      rw [List.getElem_map] at c0' c1'
      clear c0 c1 hc
      have hx := take_next hlt
      generalize l[k] = x at *
      obtain ⟨T, V⟩ := x
      have i0 : (0 : Int) ≤ (k : Int) := by omega
      have i1 : (k : Int) < (l.length : Int) := by omega
      have hT' : (l.take (k + 1)).map (fun z => Value.int .i64 z.1) = (l.take k).map (fun z => Value.int .i64 z.1) ++ [.int .i64 T] := by rw [hx, List.map_append]; rfl
      have hV' : (l.take (k + 1)).map (fun z => Value.float .f64 z.2) = (l.take k).map (fun z => Value.float .f64 z.2) ++ [.float .f64 V] := by rw [hx, List.map_append]; rfl
      have HT := Lib.hid hT'
      have HV := Lib.hid hV'
      clear hx hT' hV'
      go_wp2_with fail
      have hbx : Below w.heap.size w (wr.alloc (.cells #[.int .i64 T, .int .u64 (V : Int)] 31)) := hbel.alloc hbel.size _
      have hxT : (wr.alloc (.cells #[.int .i64 T, .int .u64 (V : Int)] 31)).ownsRow w.heap.size 2 1 (.slice ta k tc) k ((l.take k).map fun z => .int .i64 z.1) := own_alloc hoT _
      have hxV : (wr.alloc (.cells #[.int .i64 T, .int .u64 (V : Int)] 31)).ownsRow w.heap.size 49 1 (.slice va k vc) k ((l.take k).map fun z => .float .f64 z.2) := own_alloc hoV _
      have hxB : (wr.alloc (.cells #[.int .i64 T, .int .u64 (V : Int)] 31)).heap[wr.heap.size]? = some (.cells [.int .i64 T, .int .u64 (V : Int)].toArray 31 (0, 0)) := heap_alloc_new wr _
      have hxs : (wr.alloc (.cells #[.int .i64 T, .int .u64 (V : Int)] 31)).heap.size = wr.heap.size + 1 := by simp
      have hxc : (wr.alloc (.cells #[.int .i64 T, .int .u64 (V : Int)] 31)).drew.cell? ⟨wr.heap.size, 0, none⟩ = some (.int .i64 T) ∧ (wr.alloc (.cells #[.int .i64 T, .int .u64 (V : Int)] 31)).drew.cell? ⟨wr.heap.size, 1, none⟩ = some (.int .u64 (V : Int)) := ⟨cell_of_block (cs := [_, _]) hxB 0, cell_of_block (cs := [_, _]) hxB 1⟩
      have hxd : (wr.alloc (.cells #[.int .i64 T, .int .u64 (V : Int)] 31)).cell? ⟨wr.heap.size, 0, none⟩ = some (.int .i64 T) ∧ (wr.alloc (.cells #[.int .i64 T, .int .u64 (V : Int)] 31)).cell? ⟨wr.heap.size, 1, none⟩ = some (.int .u64 (V : Int)) := hxc
      clear hoT hoV c0' c1'
      generalize hb0 : wr.heap.size = b0 at *
      generalize wr.alloc _ = W at *
      have hWb : w.heap.size ≤ W.heap.size := hbx.size
      have hnew : ∀ o, (W.alloc o).heap[b0 + 1]? = some o := fun o => by rw [← hxs]; exact heap_alloc_new W o
      go_region_held3 (fun w' => w'.cell? ⟨b0, 0, none⟩ = some (.int .i64 T) ∧ w'.cell? ⟨b0, 1, none⟩ = some (.int .u64 (V : Int))) (first | (with_reducible assumption) | (with_reducible exact keep2_alloc_drew hxd _) | (with_reducible exact hc1) | (with_reducible exact hc2) | (with_reducible exact keep2_alloc hc1 _) | fail)
        (first
          | (go_at_call 10; refine (float_any V _).mono ?_; rintro e w' ⟨rfl, rfl⟩)
          | (refine step_app 47 2 iI _ 1 8 rfl (.tmp 15) (.tmp 18) rfl rfl Try.underlying47 hiI hiI0 hiI1 hiI2 rfl (by decide) (by decide) w.heap.size (.slice ta k tc) k ((l.take k).map fun z => .int .i64 z.1) rfl (own_drew (own_alloc hxT _)) (b0 + 1) rfl [.int .i64 T] rfl (hnew _) (one1 _ _) (by omega) (by simp; omega) ?_; intro t' w1 hoT1 hgT1; obtain ⟨ta1, tc1, rfl⟩ := own_form hoT1; have hT0 : (W.alloc (.cells #[.int .i64 T] 2)).drew.ownsRow w.heap.size 2 1 (.slice ta k tc) k ((l.take k).map fun z => .int .i64 z.1) := own_drew (own_alloc hxT _); have hV00 : (W.alloc (.cells #[.int .i64 T] 2)).drew.ownsRow w.heap.size 49 1 (.slice va k vc) k ((l.take k).map fun z => .float .f64 z.2) := own_drew (own_alloc hxV _); have hV1 := own_keep hT0 hgT1 hV00 (by decide); have hx1 := grown_keep hT0 hgT1 (block_alloc (w := W) hxB _) (by decide); have hc1 := keep2_grown hT0 hgT1 (block_alloc (w := W) hxB _) (by decide) rfl rfl; have hB1 := (hbx.alloc hWb (.cells #[.int .i64 T] 2)).drew.grown hgT1 (by simp; omega) (fun q hq => (hT0.lt q hq).1); have hz1 := hgT1.size)
          | (refine step_app 48 49 iF _ 1 8 rfl (.tmp 20) (.tmp 24) rfl rfl Try.underlying48 hiF hiF0 hiF1 hiF2 rfl (by decide) (by decide) w.heap.size (.slice va k vc) k ((l.take k).map fun z => .float .f64 z.2) rfl (own_alloc hV1 _) w1.heap.size rfl [.float .f64 V] rfl (heap_alloc_new w1 _) (onef _) (by omega) (by have := hB1.size; simp; omega) ?_; intro v' w2 hoV2 hgV2; obtain ⟨va2, vc2, rfl⟩ := own_form hoV2; have hV0 := own_alloc hV1 (.cells #[.float .f64 V] 49); have hT2 := own_keep hV0 hgV2 (own_alloc hoT1 _) (by decide); have hc2 := keep2_grown hV0 hgV2 (block_alloc hx1 _) (by decide) rfl rfl; have hB2 := (hB1.alloc hB1.size (.cells #[.float .f64 V] 49)).grown hgV2 (by have := hB1.size; simp; omega) (fun q hq => (hV0.lt q hq).1))
          | fail)
      rw [← HT.out] at hT2
      rw [← HV.out] at hoV2
      clear hB1 hV0 hV1 hT0 hoT1 hgT1 hgV2 hxT hxV hxB hxc hbx hc1 hc2 hx1 hz1 hxs hWb
      go_wp2_with fail
      go_roundw
      case rel => exact ⟨k + 1, by omega, by simp, hT2, hoV2, hB2⟩
      case measure => simp [intOf]; omega
    · obtain rfl : k = l.length := by omega
      rw [List.take_length] at hoT hoV
      have hg0 := fun o => heap_alloc_new wr o
      have hI := (ints_own hoT rfl).below (B' := wr.heap.size) ((Below.refl _ wr).alloc (Nat.le_refl _) (.cells #[.slice ta l.length tc, .slice va l.length vc, .int .i64 (-1)] 60)) (Nat.le_refl _)
      have hF := (floats_own hoV rfl).below (B' := wr.heap.size) ((Below.refl _ wr).alloc (Nat.le_refl _) (.cells #[.slice ta l.length tc, .slice va l.length vc, .int .i64 (-1)] 60)) (Nat.le_refl _)
      have hSt := ((hS.mono hB (Nat.le_refl _)).below (B' := w.heap.size) hbel (Nat.le_refl _)).mono (B' := wr.heap.size) hbel.size (Nat.le_refl _) |>.below (B' := wr.heap.size) ((Below.refl _ wr).alloc (Nat.le_refl _) (.cells #[.slice ta l.length tc, .slice va l.length vc, .int .i64 (-1)] 60)) (Nat.le_refl _)
      have hbb := hbel.alloc hbel.size (.cells #[.slice ta l.length tc, .slice va l.length vc, .int .i64 (-1)] 60)
      have hcase : Calls Try.prog 11 #[.iface 58 (.pointer (some ⟨wr.heap.size, 0, none⟩)), sv] (wr.alloc (.cells #[.slice ta l.length tc, .slice va l.length vc, .int .i64 (-1)] 60)) fun e w' => ∃ v', e = .returned v' ∧ Answers w' w'.heap.size v' (ansL l st.length) ∧ Below w.heap.size w w' :=
        (played_any wr.heap.size _ _ sv l st _ hI hF hSt h0 (hg0 _) hl hm).mono fun e w' ⟨v', he, ha, hb⟩ => ⟨v', he, ha, hbb.trans (hb.mono hbel.size)⟩
      have HC := Lib.hid hcase
      clear hcase hI hF hSt hbb hoT hoV
      go_wp2_with (first
        | (go_at_call 12; refine (newMock_any _ _ _ _ _ _ _).mono ?_; rintro e w' ⟨rfl, rfl⟩)
        | (go_at_call 11; refine HC.out.mono ?_; rintro e w' ⟨v', rfl, ha, hb⟩)
        | fail)
      go_ret
      exact ⟨_, rfl, ha, hb⟩
end Go.Proofs.Ytmnfojolielnlaa
