/-
  Where the buckets of a histogram lie; histograms that are the same are told to be the same.
-/
import Derived.Test.YtbgkoapnejnfbaaDoorAppend
import Derived.Test.YtbgkoapnejnfbaaDoorHistValid
import Derived.Test.YtbgkoapnejnfbaaDoorSame
import Derived.Test.YtbgkoapnejnfbaaDoorEqspans
namespace Go.Proofs.YtbgkoapnejnfbaaDoor
set_option linter.unusedSimpArgs false
set_option linter.unusedVariables false
open Go.RowKit
attribute [local go_sem ↓] Go.wp_at_zero Go.wp_at_succ

theorem OwnIn.bkts {w : World} {lo hi n : Nat} {e : TypeId} {v : Value} {l : List (Int × Int)} (h : OwnIn w lo hi e 2 v n (flat .i64 .u64 l)) : Pairs w w.heap.size .i64 .u64 v l := Pairs.own h.own

def ups (fl : Bool) (h : Hist) : List (Int × Int) := (bkts fl h.pos h.ups h.fups).1
def downs (fl : Bool) (h : Hist) : List (Int × Int) := (bkts fl h.neg h.downs h.fdowns).1

set_option maxRecDepth 100000 in
set_option maxHeartbeats 4000000 in
theorem layout_any (fl : Bool) (v1 v2 v3 v4 v5 v6 v7 : Value) (h : Hist) (w : World) (ha : HistAt w w.heap.size v1 v2 v3 v4 v5 v6 v7 h) (hf : Fits h) (hw : Wf h) :
    Calls Tryd.prog 70 #[.agg (histCells h v1 v2 v3 v4 v5 v6 v7), .bool fl] w fun e w' => ∃ a1 n1 c1 a2 n2 c2 s, e = .returned (.tuple #[.slice a1 n1 c1, .slice a2 n2 c2]) ∧
      OwnIn w' w.heap.size s 66 2 (.slice a1 n1 c1) (ups fl h).length (flat .i64 .u64 (ups fl h)) ∧ OwnIn w' s w'.heap.size 66 2 (.slice a2 n2 c2) (downs fl h).length (flat .i64 .u64 (downs fl h)) ∧ Below w.heap.size w w' := by
  unfold histCells
  have hB0 := (Below.refl w.heap.size w).alloc (Nat.le_refl _) (.cells #[.int .u8 h.hint, .int .i32 h.schema, .int .u64 h.thr, .int .u64 h.sum, .int .u64 h.zc, .int .u64 h.cnt, v1, v2, v3, v4, v5, v6, v7] 27)
  have hcs := cells_of_block (heap_alloc_new w (.cells #[.int .u8 h.hint, .int .i32 h.schema, .int .u64 h.thr, .int .u64 h.sum, .int .u64 h.zc, .int .u64 h.cnt, v1, v2, v3, v4, v5, v6, v7] 27))
  have hq : (w.alloc (.cells #[.int .u8 h.hint, .int .i32 h.schema, .int .u64 h.thr, .int .u64 h.sum, .int .u64 h.zc, .int .u64 h.cnt, v1, v2, v3, v4, v5, v6, v7] 27)).cell? ⟨w.heap.size, 0, none⟩ = some (.int .u8 h.hint) ∧ (w.alloc (.cells #[.int .u8 h.hint, .int .i32 h.schema, .int .u64 h.thr, .int .u64 h.sum, .int .u64 h.zc, .int .u64 h.cnt, v1, v2, v3, v4, v5, v6, v7] 27)).cell? ⟨w.heap.size, 1, none⟩ = some (.int .i32 h.schema) ∧ (w.alloc (.cells #[.int .u8 h.hint, .int .i32 h.schema, .int .u64 h.thr, .int .u64 h.sum, .int .u64 h.zc, .int .u64 h.cnt, v1, v2, v3, v4, v5, v6, v7] 27)).cell? ⟨w.heap.size, 2, none⟩ = some (.int .u64 h.thr) ∧ (w.alloc (.cells #[.int .u8 h.hint, .int .i32 h.schema, .int .u64 h.thr, .int .u64 h.sum, .int .u64 h.zc, .int .u64 h.cnt, v1, v2, v3, v4, v5, v6, v7] 27)).cell? ⟨w.heap.size, 3, none⟩ = some (.int .u64 h.sum) ∧ (w.alloc (.cells #[.int .u8 h.hint, .int .i32 h.schema, .int .u64 h.thr, .int .u64 h.sum, .int .u64 h.zc, .int .u64 h.cnt, v1, v2, v3, v4, v5, v6, v7] 27)).cell? ⟨w.heap.size, 4, none⟩ = some (.int .u64 h.zc) ∧ (w.alloc (.cells #[.int .u8 h.hint, .int .i32 h.schema, .int .u64 h.thr, .int .u64 h.sum, .int .u64 h.zc, .int .u64 h.cnt, v1, v2, v3, v4, v5, v6, v7] 27)).cell? ⟨w.heap.size, 5, none⟩ = some (.int .u64 h.cnt) ∧ (w.alloc (.cells #[.int .u8 h.hint, .int .i32 h.schema, .int .u64 h.thr, .int .u64 h.sum, .int .u64 h.zc, .int .u64 h.cnt, v1, v2, v3, v4, v5, v6, v7] 27)).cell? ⟨w.heap.size, 6, none⟩ = some (v1) ∧ (w.alloc (.cells #[.int .u8 h.hint, .int .i32 h.schema, .int .u64 h.thr, .int .u64 h.sum, .int .u64 h.zc, .int .u64 h.cnt, v1, v2, v3, v4, v5, v6, v7] 27)).cell? ⟨w.heap.size, 7, none⟩ = some (v2) ∧ (w.alloc (.cells #[.int .u8 h.hint, .int .i32 h.schema, .int .u64 h.thr, .int .u64 h.sum, .int .u64 h.zc, .int .u64 h.cnt, v1, v2, v3, v4, v5, v6, v7] 27)).cell? ⟨w.heap.size, 8, none⟩ = some (v3) ∧ (w.alloc (.cells #[.int .u8 h.hint, .int .i32 h.schema, .int .u64 h.thr, .int .u64 h.sum, .int .u64 h.zc, .int .u64 h.cnt, v1, v2, v3, v4, v5, v6, v7] 27)).cell? ⟨w.heap.size, 9, none⟩ = some (v4) ∧ (w.alloc (.cells #[.int .u8 h.hint, .int .i32 h.schema, .int .u64 h.thr, .int .u64 h.sum, .int .u64 h.zc, .int .u64 h.cnt, v1, v2, v3, v4, v5, v6, v7] 27)).cell? ⟨w.heap.size, 10, none⟩ = some (v5) ∧ (w.alloc (.cells #[.int .u8 h.hint, .int .i32 h.schema, .int .u64 h.thr, .int .u64 h.sum, .int .u64 h.zc, .int .u64 h.cnt, v1, v2, v3, v4, v5, v6, v7] 27)).cell? ⟨w.heap.size, 11, none⟩ = some (v6) ∧ (w.alloc (.cells #[.int .u8 h.hint, .int .i32 h.schema, .int .u64 h.thr, .int .u64 h.sum, .int .u64 h.zc, .int .u64 h.cnt, v1, v2, v3, v4, v5, v6, v7] 27)).cell? ⟨w.heap.size, 12, none⟩ = some (v7) := ⟨hcs 0, hcs 1, hcs 2, hcs 3, hcs 4, hcs 5, hcs 6, hcs 7, hcs 8, hcs 9, hcs 10, hcs 11, hcs 12⟩
  have hz : w.heap.size < (w.alloc (.cells #[.int .u8 h.hint, .int .i32 h.schema, .int .u64 h.thr, .int .u64 h.sum, .int .u64 h.zc, .int .u64 h.cnt, v1, v2, v3, v4, v5, v6, v7] 27)).heap.size := by simp
  clear hcs
  go_enter Tryd.func70, Tryd.ntmps70
  go_wp2_with fail
  generalize hb : w.heap.size = b at hq
  generalize w.alloc _ = W at *
  subst hb
  go_wp2_with (go_at_call 28; with_reducible (show Calls _ _ #[v1, v3, v5, _] _ _); refine (buckets_any fl v1 v3 v5 h.pos h.ups h.fups w.heap.size _ (ha.pos.below hB0 (Nat.le_refl _)) (ha.ups.below hB0 (Nat.le_refl _)) (ha.fups.below hB0 (Nat.le_refl _)) hf.pos hf.ups hf.fups hw.pos).mono ?_; rintro e w1 ⟨x, rfl, ho1, hb1⟩; have hq1 := keep13 hb1 hz hq; have hB1 := hB0.trans (hb1.mono hB0.size); have hz1 := hb1.size; have o1 := OwnIn.made ho1 hz1; obtain ⟨a1, c1, rfl⟩ := own_form ho1; clear hq)
  go_at_call 28
  refine (buckets_any fl v2 v4 v6 h.neg h.downs h.fdowns w.heap.size _ (ha.neg.below hB1 (Nat.le_refl _)) (ha.downs.below hB1 (Nat.le_refl _)) (ha.fdowns.below hB1 (Nat.le_refl _)) hf.neg hf.downs hf.fdowns hw.neg).mono ?_
  rintro e w2 ⟨y, rfl, ho2, hb2⟩
  have hB2 := hB1.trans (hb2.mono hB1.size)
  have hz2 := hb2.size
  have o2 := OwnIn.made ho2 hz2
  replace o1 := o1.below hb2 (Nat.le_refl _)
  obtain ⟨a2, c2, rfl⟩ := own_form ho2
  clear hq1
  go_wp2
  go_ret2
  exact ⟨_, _, _, _, _, _, _, rfl, o1.lower (by omega), o2, hB2⟩

theorem sameBits_eq (va vb : Value) (a b : List Nat) (B : Nat) (w : World) (ha : Ints w B .u64 va (a.map Int.ofNat)) (hb : Ints w B .u64 vb (b.map Int.ofNat)) (hal : a.length ≤ 2147483647) (he : a = b) :
    Calls Tryd.prog 51 #[va, vb] w fun e w' => e = .returned (.bool true) ∧ Below w.heap.size w w' :=
  (sameBits_any va vb a b B w ha hb hal (he ▸ hal)).mono fun e w' ⟨h1, h2⟩ => ⟨by rw [h1, decide_eq_true he], h2⟩

theorem two13 (w : World) (cs ds : Array Value) (t t' : TypeId) : ((w.alloc (.cells cs t)).alloc (.cells ds t')).heap[w.heap.size]? = some (.cells cs t) ∧ ((w.alloc (.cells cs t)).alloc (.cells ds t')).heap[w.heap.size + 1]? = some (.cells ds t') ∧ ((w.alloc (.cells cs t)).alloc (.cells ds t')).heap.size = w.heap.size + 2 := by
  have h1 : (w.alloc (.cells cs t)).heap.size = w.heap.size + 1 := by simp
  refine ⟨?_, ?_, by simp⟩
  · have b1 := (Below.refl (w.heap.size + 1) (w.alloc (.cells cs t))).alloc (by rw [h1]; omega) (.cells ds t')
    exact (b1.block _ (by omega)).trans (heap_alloc_new w _)
  · have := heap_alloc_new (w.alloc (.cells cs t)) (.cells ds t')
    rw [h1] at this
    exact this

/-- two histograms that mean the same, span by span, bucket by bucket -/
structure SameD (fl : Bool) (a b : Hist) : Prop where
  schema : a.schema = b.schema
  thr : a.thr = b.thr
  sum : a.sum = b.sum
  zc : a.zc = b.zc
  cnt : a.cnt = b.cnt
  cus : a.cus = b.cus
  pos : a.pos = b.pos
  neg : a.neg = b.neg
  ups : ups fl a = ups fl b
  downs : downs fl a = downs fl b

set_option maxRecDepth 100000 in
set_option maxHeartbeats 8000000 in
theorem equal_eq (fl : Bool) (u1 u2 u3 u4 u5 u6 u7 v1 v2 v3 v4 v5 v6 v7 : Value) (a b : Hist) (w : World) (ha : HistAt w w.heap.size u1 u2 u3 u4 u5 u6 u7 a) (hb : HistAt w w.heap.size v1 v2 v3 v4 v5 v6 v7 b) (fa : Fits a) (fb : Fits b) (wa : Wf a) (wb : Wf b) (hs : SameD fl a b) :
    Calls Tryd.prog 45 #[.agg (histCells a u1 u2 u3 u4 u5 u6 u7), .agg (histCells b v1 v2 v3 v4 v5 v6 v7), .bool fl] w fun e w' => e = .returned (.bool true) ∧ Below w.heap.size w w' := by
  unfold histCells
  obtain ⟨h2, h3, hn⟩ := two13 w #[.int .u8 a.hint, .int .i32 a.schema, .int .u64 a.thr, .int .u64 a.sum, .int .u64 a.zc, .int .u64 a.cnt, u1, u2, u3, u4, u5, u6, u7] #[.int .u8 b.hint, .int .i32 b.schema, .int .u64 b.thr, .int .u64 b.sum, .int .u64 b.zc, .int .u64 b.cnt, v1, v2, v3, v4, v5, v6, v7] 27 27
  have hB0 : Below w.heap.size w ((w.alloc (.cells #[.int .u8 a.hint, .int .i32 a.schema, .int .u64 a.thr, .int .u64 a.sum, .int .u64 a.zc, .int .u64 a.cnt, u1, u2, u3, u4, u5, u6, u7] 27)).alloc (.cells #[.int .u8 b.hint, .int .i32 b.schema, .int .u64 b.thr, .int .u64 b.sum, .int .u64 b.zc, .int .u64 b.cnt, v1, v2, v3, v4, v5, v6, v7] 27)) := ((Below.refl w.heap.size w).alloc (Nat.le_refl _) _).alloc (by simp) _
  have hca := cells_of_block h2
  have hcb := cells_of_block h3
  have qa : ((w.alloc (.cells #[.int .u8 a.hint, .int .i32 a.schema, .int .u64 a.thr, .int .u64 a.sum, .int .u64 a.zc, .int .u64 a.cnt, u1, u2, u3, u4, u5, u6, u7] 27)).alloc (.cells #[.int .u8 b.hint, .int .i32 b.schema, .int .u64 b.thr, .int .u64 b.sum, .int .u64 b.zc, .int .u64 b.cnt, v1, v2, v3, v4, v5, v6, v7] 27)).cell? ⟨w.heap.size, 0, none⟩ = some (.int .u8 a.hint) ∧ ((w.alloc (.cells #[.int .u8 a.hint, .int .i32 a.schema, .int .u64 a.thr, .int .u64 a.sum, .int .u64 a.zc, .int .u64 a.cnt, u1, u2, u3, u4, u5, u6, u7] 27)).alloc (.cells #[.int .u8 b.hint, .int .i32 b.schema, .int .u64 b.thr, .int .u64 b.sum, .int .u64 b.zc, .int .u64 b.cnt, v1, v2, v3, v4, v5, v6, v7] 27)).cell? ⟨w.heap.size, 1, none⟩ = some (.int .i32 a.schema) ∧ ((w.alloc (.cells #[.int .u8 a.hint, .int .i32 a.schema, .int .u64 a.thr, .int .u64 a.sum, .int .u64 a.zc, .int .u64 a.cnt, u1, u2, u3, u4, u5, u6, u7] 27)).alloc (.cells #[.int .u8 b.hint, .int .i32 b.schema, .int .u64 b.thr, .int .u64 b.sum, .int .u64 b.zc, .int .u64 b.cnt, v1, v2, v3, v4, v5, v6, v7] 27)).cell? ⟨w.heap.size, 2, none⟩ = some (.int .u64 a.thr) ∧ ((w.alloc (.cells #[.int .u8 a.hint, .int .i32 a.schema, .int .u64 a.thr, .int .u64 a.sum, .int .u64 a.zc, .int .u64 a.cnt, u1, u2, u3, u4, u5, u6, u7] 27)).alloc (.cells #[.int .u8 b.hint, .int .i32 b.schema, .int .u64 b.thr, .int .u64 b.sum, .int .u64 b.zc, .int .u64 b.cnt, v1, v2, v3, v4, v5, v6, v7] 27)).cell? ⟨w.heap.size, 3, none⟩ = some (.int .u64 a.sum) ∧ ((w.alloc (.cells #[.int .u8 a.hint, .int .i32 a.schema, .int .u64 a.thr, .int .u64 a.sum, .int .u64 a.zc, .int .u64 a.cnt, u1, u2, u3, u4, u5, u6, u7] 27)).alloc (.cells #[.int .u8 b.hint, .int .i32 b.schema, .int .u64 b.thr, .int .u64 b.sum, .int .u64 b.zc, .int .u64 b.cnt, v1, v2, v3, v4, v5, v6, v7] 27)).cell? ⟨w.heap.size, 4, none⟩ = some (.int .u64 a.zc) ∧ ((w.alloc (.cells #[.int .u8 a.hint, .int .i32 a.schema, .int .u64 a.thr, .int .u64 a.sum, .int .u64 a.zc, .int .u64 a.cnt, u1, u2, u3, u4, u5, u6, u7] 27)).alloc (.cells #[.int .u8 b.hint, .int .i32 b.schema, .int .u64 b.thr, .int .u64 b.sum, .int .u64 b.zc, .int .u64 b.cnt, v1, v2, v3, v4, v5, v6, v7] 27)).cell? ⟨w.heap.size, 5, none⟩ = some (.int .u64 a.cnt) ∧ ((w.alloc (.cells #[.int .u8 a.hint, .int .i32 a.schema, .int .u64 a.thr, .int .u64 a.sum, .int .u64 a.zc, .int .u64 a.cnt, u1, u2, u3, u4, u5, u6, u7] 27)).alloc (.cells #[.int .u8 b.hint, .int .i32 b.schema, .int .u64 b.thr, .int .u64 b.sum, .int .u64 b.zc, .int .u64 b.cnt, v1, v2, v3, v4, v5, v6, v7] 27)).cell? ⟨w.heap.size, 6, none⟩ = some (u1) ∧ ((w.alloc (.cells #[.int .u8 a.hint, .int .i32 a.schema, .int .u64 a.thr, .int .u64 a.sum, .int .u64 a.zc, .int .u64 a.cnt, u1, u2, u3, u4, u5, u6, u7] 27)).alloc (.cells #[.int .u8 b.hint, .int .i32 b.schema, .int .u64 b.thr, .int .u64 b.sum, .int .u64 b.zc, .int .u64 b.cnt, v1, v2, v3, v4, v5, v6, v7] 27)).cell? ⟨w.heap.size, 7, none⟩ = some (u2) ∧ ((w.alloc (.cells #[.int .u8 a.hint, .int .i32 a.schema, .int .u64 a.thr, .int .u64 a.sum, .int .u64 a.zc, .int .u64 a.cnt, u1, u2, u3, u4, u5, u6, u7] 27)).alloc (.cells #[.int .u8 b.hint, .int .i32 b.schema, .int .u64 b.thr, .int .u64 b.sum, .int .u64 b.zc, .int .u64 b.cnt, v1, v2, v3, v4, v5, v6, v7] 27)).cell? ⟨w.heap.size, 8, none⟩ = some (u3) ∧ ((w.alloc (.cells #[.int .u8 a.hint, .int .i32 a.schema, .int .u64 a.thr, .int .u64 a.sum, .int .u64 a.zc, .int .u64 a.cnt, u1, u2, u3, u4, u5, u6, u7] 27)).alloc (.cells #[.int .u8 b.hint, .int .i32 b.schema, .int .u64 b.thr, .int .u64 b.sum, .int .u64 b.zc, .int .u64 b.cnt, v1, v2, v3, v4, v5, v6, v7] 27)).cell? ⟨w.heap.size, 9, none⟩ = some (u4) ∧ ((w.alloc (.cells #[.int .u8 a.hint, .int .i32 a.schema, .int .u64 a.thr, .int .u64 a.sum, .int .u64 a.zc, .int .u64 a.cnt, u1, u2, u3, u4, u5, u6, u7] 27)).alloc (.cells #[.int .u8 b.hint, .int .i32 b.schema, .int .u64 b.thr, .int .u64 b.sum, .int .u64 b.zc, .int .u64 b.cnt, v1, v2, v3, v4, v5, v6, v7] 27)).cell? ⟨w.heap.size, 10, none⟩ = some (u5) ∧ ((w.alloc (.cells #[.int .u8 a.hint, .int .i32 a.schema, .int .u64 a.thr, .int .u64 a.sum, .int .u64 a.zc, .int .u64 a.cnt, u1, u2, u3, u4, u5, u6, u7] 27)).alloc (.cells #[.int .u8 b.hint, .int .i32 b.schema, .int .u64 b.thr, .int .u64 b.sum, .int .u64 b.zc, .int .u64 b.cnt, v1, v2, v3, v4, v5, v6, v7] 27)).cell? ⟨w.heap.size, 11, none⟩ = some (u6) ∧ ((w.alloc (.cells #[.int .u8 a.hint, .int .i32 a.schema, .int .u64 a.thr, .int .u64 a.sum, .int .u64 a.zc, .int .u64 a.cnt, u1, u2, u3, u4, u5, u6, u7] 27)).alloc (.cells #[.int .u8 b.hint, .int .i32 b.schema, .int .u64 b.thr, .int .u64 b.sum, .int .u64 b.zc, .int .u64 b.cnt, v1, v2, v3, v4, v5, v6, v7] 27)).cell? ⟨w.heap.size, 12, none⟩ = some (u7) := ⟨hca 0, hca 1, hca 2, hca 3, hca 4, hca 5, hca 6, hca 7, hca 8, hca 9, hca 10, hca 11, hca 12⟩
  have qb : ((w.alloc (.cells #[.int .u8 a.hint, .int .i32 a.schema, .int .u64 a.thr, .int .u64 a.sum, .int .u64 a.zc, .int .u64 a.cnt, u1, u2, u3, u4, u5, u6, u7] 27)).alloc (.cells #[.int .u8 b.hint, .int .i32 b.schema, .int .u64 b.thr, .int .u64 b.sum, .int .u64 b.zc, .int .u64 b.cnt, v1, v2, v3, v4, v5, v6, v7] 27)).cell? ⟨w.heap.size + 1, 0, none⟩ = some (.int .u8 b.hint) ∧ ((w.alloc (.cells #[.int .u8 a.hint, .int .i32 a.schema, .int .u64 a.thr, .int .u64 a.sum, .int .u64 a.zc, .int .u64 a.cnt, u1, u2, u3, u4, u5, u6, u7] 27)).alloc (.cells #[.int .u8 b.hint, .int .i32 b.schema, .int .u64 b.thr, .int .u64 b.sum, .int .u64 b.zc, .int .u64 b.cnt, v1, v2, v3, v4, v5, v6, v7] 27)).cell? ⟨w.heap.size + 1, 1, none⟩ = some (.int .i32 b.schema) ∧ ((w.alloc (.cells #[.int .u8 a.hint, .int .i32 a.schema, .int .u64 a.thr, .int .u64 a.sum, .int .u64 a.zc, .int .u64 a.cnt, u1, u2, u3, u4, u5, u6, u7] 27)).alloc (.cells #[.int .u8 b.hint, .int .i32 b.schema, .int .u64 b.thr, .int .u64 b.sum, .int .u64 b.zc, .int .u64 b.cnt, v1, v2, v3, v4, v5, v6, v7] 27)).cell? ⟨w.heap.size + 1, 2, none⟩ = some (.int .u64 b.thr) ∧ ((w.alloc (.cells #[.int .u8 a.hint, .int .i32 a.schema, .int .u64 a.thr, .int .u64 a.sum, .int .u64 a.zc, .int .u64 a.cnt, u1, u2, u3, u4, u5, u6, u7] 27)).alloc (.cells #[.int .u8 b.hint, .int .i32 b.schema, .int .u64 b.thr, .int .u64 b.sum, .int .u64 b.zc, .int .u64 b.cnt, v1, v2, v3, v4, v5, v6, v7] 27)).cell? ⟨w.heap.size + 1, 3, none⟩ = some (.int .u64 b.sum) ∧ ((w.alloc (.cells #[.int .u8 a.hint, .int .i32 a.schema, .int .u64 a.thr, .int .u64 a.sum, .int .u64 a.zc, .int .u64 a.cnt, u1, u2, u3, u4, u5, u6, u7] 27)).alloc (.cells #[.int .u8 b.hint, .int .i32 b.schema, .int .u64 b.thr, .int .u64 b.sum, .int .u64 b.zc, .int .u64 b.cnt, v1, v2, v3, v4, v5, v6, v7] 27)).cell? ⟨w.heap.size + 1, 4, none⟩ = some (.int .u64 b.zc) ∧ ((w.alloc (.cells #[.int .u8 a.hint, .int .i32 a.schema, .int .u64 a.thr, .int .u64 a.sum, .int .u64 a.zc, .int .u64 a.cnt, u1, u2, u3, u4, u5, u6, u7] 27)).alloc (.cells #[.int .u8 b.hint, .int .i32 b.schema, .int .u64 b.thr, .int .u64 b.sum, .int .u64 b.zc, .int .u64 b.cnt, v1, v2, v3, v4, v5, v6, v7] 27)).cell? ⟨w.heap.size + 1, 5, none⟩ = some (.int .u64 b.cnt) ∧ ((w.alloc (.cells #[.int .u8 a.hint, .int .i32 a.schema, .int .u64 a.thr, .int .u64 a.sum, .int .u64 a.zc, .int .u64 a.cnt, u1, u2, u3, u4, u5, u6, u7] 27)).alloc (.cells #[.int .u8 b.hint, .int .i32 b.schema, .int .u64 b.thr, .int .u64 b.sum, .int .u64 b.zc, .int .u64 b.cnt, v1, v2, v3, v4, v5, v6, v7] 27)).cell? ⟨w.heap.size + 1, 6, none⟩ = some (v1) ∧ ((w.alloc (.cells #[.int .u8 a.hint, .int .i32 a.schema, .int .u64 a.thr, .int .u64 a.sum, .int .u64 a.zc, .int .u64 a.cnt, u1, u2, u3, u4, u5, u6, u7] 27)).alloc (.cells #[.int .u8 b.hint, .int .i32 b.schema, .int .u64 b.thr, .int .u64 b.sum, .int .u64 b.zc, .int .u64 b.cnt, v1, v2, v3, v4, v5, v6, v7] 27)).cell? ⟨w.heap.size + 1, 7, none⟩ = some (v2) ∧ ((w.alloc (.cells #[.int .u8 a.hint, .int .i32 a.schema, .int .u64 a.thr, .int .u64 a.sum, .int .u64 a.zc, .int .u64 a.cnt, u1, u2, u3, u4, u5, u6, u7] 27)).alloc (.cells #[.int .u8 b.hint, .int .i32 b.schema, .int .u64 b.thr, .int .u64 b.sum, .int .u64 b.zc, .int .u64 b.cnt, v1, v2, v3, v4, v5, v6, v7] 27)).cell? ⟨w.heap.size + 1, 8, none⟩ = some (v3) ∧ ((w.alloc (.cells #[.int .u8 a.hint, .int .i32 a.schema, .int .u64 a.thr, .int .u64 a.sum, .int .u64 a.zc, .int .u64 a.cnt, u1, u2, u3, u4, u5, u6, u7] 27)).alloc (.cells #[.int .u8 b.hint, .int .i32 b.schema, .int .u64 b.thr, .int .u64 b.sum, .int .u64 b.zc, .int .u64 b.cnt, v1, v2, v3, v4, v5, v6, v7] 27)).cell? ⟨w.heap.size + 1, 9, none⟩ = some (v4) ∧ ((w.alloc (.cells #[.int .u8 a.hint, .int .i32 a.schema, .int .u64 a.thr, .int .u64 a.sum, .int .u64 a.zc, .int .u64 a.cnt, u1, u2, u3, u4, u5, u6, u7] 27)).alloc (.cells #[.int .u8 b.hint, .int .i32 b.schema, .int .u64 b.thr, .int .u64 b.sum, .int .u64 b.zc, .int .u64 b.cnt, v1, v2, v3, v4, v5, v6, v7] 27)).cell? ⟨w.heap.size + 1, 10, none⟩ = some (v5) ∧ ((w.alloc (.cells #[.int .u8 a.hint, .int .i32 a.schema, .int .u64 a.thr, .int .u64 a.sum, .int .u64 a.zc, .int .u64 a.cnt, u1, u2, u3, u4, u5, u6, u7] 27)).alloc (.cells #[.int .u8 b.hint, .int .i32 b.schema, .int .u64 b.thr, .int .u64 b.sum, .int .u64 b.zc, .int .u64 b.cnt, v1, v2, v3, v4, v5, v6, v7] 27)).cell? ⟨w.heap.size + 1, 11, none⟩ = some (v6) ∧ ((w.alloc (.cells #[.int .u8 a.hint, .int .i32 a.schema, .int .u64 a.thr, .int .u64 a.sum, .int .u64 a.zc, .int .u64 a.cnt, u1, u2, u3, u4, u5, u6, u7] 27)).alloc (.cells #[.int .u8 b.hint, .int .i32 b.schema, .int .u64 b.thr, .int .u64 b.sum, .int .u64 b.zc, .int .u64 b.cnt, v1, v2, v3, v4, v5, v6, v7] 27)).cell? ⟨w.heap.size + 1, 12, none⟩ = some (v7) := ⟨hcb 0, hcb 1, hcb 2, hcb 3, hcb 4, hcb 5, hcb 6, hcb 7, hcb 8, hcb 9, hcb 10, hcb 11, hcb 12⟩
  clear hca hcb h2 h3
  have e1 : (a.schema == b.schema) = true := by rw [hs.schema]; simp
  have e2 : ((a.thr : Int) == (b.thr : Int)) = true := by rw [hs.thr]; simp
  have e3 : ((a.sum : Int) == (b.sum : Int)) = true := by rw [hs.sum]; simp
  have e4 : ((a.zc : Int) == (b.zc : Int)) = true := by rw [hs.zc]; simp
  have e5 : ((a.cnt : Int) == (b.cnt : Int)) = true := by rw [hs.cnt]; simp
  go_enter Tryd.func45, Tryd.ntmps45
  go_wp2_with fail
  have hQA := Lib.hid qa
  have hQB := Lib.hid qb
  have hN := Lib.hid hn
  clear qa qb hn
  generalize (w.alloc _).alloc _ = W at *
  have hn := hN.out
  have hza : w.heap.size < W.heap.size := by omega
  have hzb : w.heap.size + 1 < W.heap.size := by omega
  clear hn hN
  have haW := (ha.below hB0 (Nat.le_refl _)).mono hB0.size (Nat.le_refl _)
  have hbW := (hb.below hB0 (Nat.le_refl _)).mono hB0.size (Nat.le_refl _)
  refine (layout_any fl u1 u2 u3 u4 u5 u6 u7 a W haW fa wa).mono ?_
  rintro e w1 ⟨p1, n1, d1, p2, n2, d2, s1, rfl, o1, o2, hb1⟩
  have hqa1 := keep13 hb1 hza hQA.out
  have hqb1 := keep13 hb1 hzb hQB.out
  have hB1 := hB0.trans (hb1.mono hB0.size)
  have hz1 := hb1.size
  go_wp2_with fail
  have HA1 := Lib.hid hqa1
  have HB1 := Lib.hid hqb1
  clear hqa1 hqb1
  refine (layout_any fl v1 v2 v3 v4 v5 v6 v7 b w1 ((hb.below hB1 (Nat.le_refl _)).mono hB1.size (Nat.le_refl _)) fb wb).mono ?_
  rintro e w2 ⟨p3, n3, d3, p4, n4, d4, s2, rfl, o3, o4, hb2⟩
  have hqa2 := keep13 hb2 (by omega) HA1.out
  have hqb2 := keep13 hb2 (by omega) HB1.out
  have hB2 := hB1.trans (hb2.mono hB1.size)
  replace o1 := o1.below hb2 (by have := o2.le; omega)
  replace o2 := o2.below hb2 (Nat.le_refl _)
  go_wp2_with fail
  clear hqa2 hqb2
  refine (sameBits_eq _ _ a.cus b.cus w.heap.size w2 (ha.cus.below hB2 (Nat.le_refl _)) (hb.cus.below hB2 (Nat.le_refl _)) fa.cus hs.cus).mono ?_
  rintro e w3 ⟨rfl, hb3⟩
  have hB3 := hB2.trans (hb3.mono hB2.size)
  have hz2 := hb2.size
  have hz3 := hb3.size
  replace o1 := o1.below hb3 (by have := o2.le; omega)
  replace o2 := o2.below hb3 (by omega)
  replace o3 := o3.below hb3 (by have := o4.le; omega)
  replace o4 := o4.below hb3 (Nat.le_refl _)
  have lu : (ups fl a).length ≤ 2147483647 := by have := bkts_len fl a.pos a.ups a.fups; unfold ups; cases fl <;> simp at this <;> have := fa.ups <;> have := fa.fups <;> omega
  have ld : (downs fl a).length ≤ 2147483647 := by have := bkts_len fl a.neg a.downs a.fdowns; unfold downs; cases fl <;> simp at this <;> have := fa.downs <;> have := fa.fdowns <;> omega
  go_wp2_with fail
  refine (sameBuckets_eq _ _ (ups fl a) w3.heap.size w3 o1.bkts (by rw [hs.ups]; exact o3.bkts) lu).mono ?_
  rintro e w4 ⟨rfl, hb4⟩
  have hB4 := hB3.trans (hb4.mono hB3.size)
  have hz4 := hb4.size
  replace o2 := o2.below hb4 (by omega)
  replace o4 := o4.below hb4 (by omega)
  go_wp2_with fail
  refine (sameBuckets_eq _ _ (downs fl a) w4.heap.size w4 o2.bkts (by rw [hs.downs]; exact o4.bkts) ld).mono ?_
  rintro e w5 ⟨rfl, hb5⟩
  have hB5 := hB4.trans (hb5.mono hB4.size)
  go_wp2
  go_ret
  exact ⟨rfl, hB5⟩
end Go.Proofs.YtbgkoapnejnfbaaDoor
