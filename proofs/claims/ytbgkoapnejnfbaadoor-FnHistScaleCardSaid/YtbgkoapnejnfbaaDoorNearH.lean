/-
  NearHistograms of two histograms that mean the same by numbers.
-/
import Derived.Test.YtbgkoapnejnfbaaDoorNear
import Derived.Test.YtbgkoapnejnfbaaDoorLaid
import Derived.Deep.RegionHeld3
namespace Go.Proofs.YtbgkoapnejnfbaaDoor
set_option linter.unusedSimpArgs false
set_option linter.unusedVariables false
open Go.RowKit
attribute [local go_sem ↓] Go.wp_at_zero Go.wp_at_succ

/-- two float histograms that mean the same by numbers -/
structure NearD (a b : Hist) : Prop where
  schema : a.schema = b.schema
  thr : a.thr = b.thr
  sum : nb a.sum = nb b.sum
  zc : nb a.zc = nb b.zc
  cnt : nb a.cnt = nb b.cnt
  cus : a.cus = b.cus
  ups : (ups true a).map nbp = (ups true b).map nbp
  downs : (downs true a).map nbp = (downs true b).map nbp

theorem keepN {w w' : World} {B p : Nat} {a b : Hist} {u7 v7 : Value} (hb : Below B w w') (hB : p + 1 < B) (hh : w.cell? ⟨p, 1, none⟩ = some (.int .i32 a.schema) ∧ w.cell? ⟨p, 2, none⟩ = some (.int .u64 (a.thr : Int)) ∧ w.cell? ⟨p, 3, none⟩ = some (.int .u64 (a.sum : Int)) ∧ w.cell? ⟨p, 4, none⟩ = some (.int .u64 (a.zc : Int)) ∧ w.cell? ⟨p, 5, none⟩ = some (.int .u64 (a.cnt : Int)) ∧ w.cell? ⟨p, 12, none⟩ = some u7 ∧ w.cell? ⟨p + 1, 1, none⟩ = some (.int .i32 b.schema) ∧ w.cell? ⟨p + 1, 2, none⟩ = some (.int .u64 (b.thr : Int)) ∧ w.cell? ⟨p + 1, 3, none⟩ = some (.int .u64 (b.sum : Int)) ∧ w.cell? ⟨p + 1, 4, none⟩ = some (.int .u64 (b.zc : Int)) ∧ w.cell? ⟨p + 1, 5, none⟩ = some (.int .u64 (b.cnt : Int)) ∧ w.cell? ⟨p + 1, 12, none⟩ = some v7) : w'.cell? ⟨p, 1, none⟩ = some (.int .i32 a.schema) ∧ w'.cell? ⟨p, 2, none⟩ = some (.int .u64 (a.thr : Int)) ∧ w'.cell? ⟨p, 3, none⟩ = some (.int .u64 (a.sum : Int)) ∧ w'.cell? ⟨p, 4, none⟩ = some (.int .u64 (a.zc : Int)) ∧ w'.cell? ⟨p, 5, none⟩ = some (.int .u64 (a.cnt : Int)) ∧ w'.cell? ⟨p, 12, none⟩ = some u7 ∧ w'.cell? ⟨p + 1, 1, none⟩ = some (.int .i32 b.schema) ∧ w'.cell? ⟨p + 1, 2, none⟩ = some (.int .u64 (b.thr : Int)) ∧ w'.cell? ⟨p + 1, 3, none⟩ = some (.int .u64 (b.sum : Int)) ∧ w'.cell? ⟨p + 1, 4, none⟩ = some (.int .u64 (b.zc : Int)) ∧ w'.cell? ⟨p + 1, 5, none⟩ = some (.int .u64 (b.cnt : Int)) ∧ w'.cell? ⟨p + 1, 12, none⟩ = some v7 := by
  obtain ⟨h0, h1, h2, h3, h4, h5, h6, h7, h8, h9, h10, h11⟩ := hh
  exact ⟨(hb.cell (p := ⟨p, 1, none⟩) (show p < B by omega)).trans h0, (hb.cell (p := ⟨p, 2, none⟩) (show p < B by omega)).trans h1, (hb.cell (p := ⟨p, 3, none⟩) (show p < B by omega)).trans h2, (hb.cell (p := ⟨p, 4, none⟩) (show p < B by omega)).trans h3, (hb.cell (p := ⟨p, 5, none⟩) (show p < B by omega)).trans h4, (hb.cell (p := ⟨p, 12, none⟩) (show p < B by omega)).trans h5, (hb.cell (p := ⟨p + 1, 1, none⟩) (show p + 1 < B by omega)).trans h6, (hb.cell (p := ⟨p + 1, 2, none⟩) (show p + 1 < B by omega)).trans h7, (hb.cell (p := ⟨p + 1, 3, none⟩) (show p + 1 < B by omega)).trans h8, (hb.cell (p := ⟨p + 1, 4, none⟩) (show p + 1 < B by omega)).trans h9, (hb.cell (p := ⟨p + 1, 5, none⟩) (show p + 1 < B by omega)).trans h10, (hb.cell (p := ⟨p + 1, 12, none⟩) (show p + 1 < B by omega)).trans h11⟩

set_option maxRecDepth 100000 in
set_option maxHeartbeats 8000000 in
theorem nearH_eq (u1 u2 u3 u4 u5 u6 u7 v1 v2 v3 v4 v5 v6 v7 : Value) (a b : Hist) (w : World) (ha : HistAt w w.heap.size u1 u2 u3 u4 u5 u6 u7 a) (hb : HistAt w w.heap.size v1 v2 v3 v4 v5 v6 v7 b) (fa : Fits a) (fb : Fits b) (wa : Wf a) (wb : Wf b)
    (na : (∀ x ∈ ups true a, 0 ≤ x.2) ∧ ∀ x ∈ downs true a, 0 ≤ x.2) (nbb : (∀ x ∈ ups true b, 0 ≤ x.2) ∧ ∀ x ∈ downs true b, 0 ≤ x.2) (hs : NearD a b) :
    Calls Tryd.prog 18 #[.agg (histCells a u1 u2 u3 u4 u5 u6 u7), .agg (histCells b v1 v2 v3 v4 v5 v6 v7)] w fun e w' => e = .returned (.bool true) ∧ Below w.heap.size w w' := by
  unfold histCells
  obtain ⟨h2, h3, hn⟩ := two13 w #[.int .u8 a.hint, .int .i32 a.schema, .int .u64 a.thr, .int .u64 a.sum, .int .u64 a.zc, .int .u64 a.cnt, u1, u2, u3, u4, u5, u6, u7] #[.int .u8 b.hint, .int .i32 b.schema, .int .u64 b.thr, .int .u64 b.sum, .int .u64 b.zc, .int .u64 b.cnt, v1, v2, v3, v4, v5, v6, v7] 27 27
  have hB0 : Below w.heap.size w ((w.alloc (.cells #[.int .u8 a.hint, .int .i32 a.schema, .int .u64 a.thr, .int .u64 a.sum, .int .u64 a.zc, .int .u64 a.cnt, u1, u2, u3, u4, u5, u6, u7] 27)).alloc (.cells #[.int .u8 b.hint, .int .i32 b.schema, .int .u64 b.thr, .int .u64 b.sum, .int .u64 b.zc, .int .u64 b.cnt, v1, v2, v3, v4, v5, v6, v7] 27)) := ((Below.refl w.heap.size w).alloc (Nat.le_refl _) _).alloc (by simp) _
  have hca := cells_of_block h2
  have hcb := cells_of_block h3
  have qa : ((w.alloc (.cells #[.int .u8 a.hint, .int .i32 a.schema, .int .u64 a.thr, .int .u64 a.sum, .int .u64 a.zc, .int .u64 a.cnt, u1, u2, u3, u4, u5, u6, u7] 27)).alloc (.cells #[.int .u8 b.hint, .int .i32 b.schema, .int .u64 b.thr, .int .u64 b.sum, .int .u64 b.zc, .int .u64 b.cnt, v1, v2, v3, v4, v5, v6, v7] 27)).cell? ⟨w.heap.size, 0, none⟩ = some (.int .u8 a.hint) ∧ ((w.alloc (.cells #[.int .u8 a.hint, .int .i32 a.schema, .int .u64 a.thr, .int .u64 a.sum, .int .u64 a.zc, .int .u64 a.cnt, u1, u2, u3, u4, u5, u6, u7] 27)).alloc (.cells #[.int .u8 b.hint, .int .i32 b.schema, .int .u64 b.thr, .int .u64 b.sum, .int .u64 b.zc, .int .u64 b.cnt, v1, v2, v3, v4, v5, v6, v7] 27)).cell? ⟨w.heap.size, 1, none⟩ = some (.int .i32 a.schema) ∧ ((w.alloc (.cells #[.int .u8 a.hint, .int .i32 a.schema, .int .u64 a.thr, .int .u64 a.sum, .int .u64 a.zc, .int .u64 a.cnt, u1, u2, u3, u4, u5, u6, u7] 27)).alloc (.cells #[.int .u8 b.hint, .int .i32 b.schema, .int .u64 b.thr, .int .u64 b.sum, .int .u64 b.zc, .int .u64 b.cnt, v1, v2, v3, v4, v5, v6, v7] 27)).cell? ⟨w.heap.size, 2, none⟩ = some (.int .u64 a.thr) ∧ ((w.alloc (.cells #[.int .u8 a.hint, .int .i32 a.schema, .int .u64 a.thr, .int .u64 a.sum, .int .u64 a.zc, .int .u64 a.cnt, u1, u2, u3, u4, u5, u6, u7] 27)).alloc (.cells #[.int .u8 b.hint, .int .i32 b.schema, .int .u64 b.thr, .int .u64 b.sum, .int .u64 b.zc, .int .u64 b.cnt, v1, v2, v3, v4, v5, v6, v7] 27)).cell? ⟨w.heap.size, 3, none⟩ = some (.int .u64 a.sum) ∧ ((w.alloc (.cells #[.int .u8 a.hint, .int .i32 a.schema, .int .u64 a.thr, .int .u64 a.sum, .int .u64 a.zc, .int .u64 a.cnt, u1, u2, u3, u4, u5, u6, u7] 27)).alloc (.cells #[.int .u8 b.hint, .int .i32 b.schema, .int .u64 b.thr, .int .u64 b.sum, .int .u64 b.zc, .int .u64 b.cnt, v1, v2, v3, v4, v5, v6, v7] 27)).cell? ⟨w.heap.size, 4, none⟩ = some (.int .u64 a.zc) ∧ ((w.alloc (.cells #[.int .u8 a.hint, .int .i32 a.schema, .int .u64 a.thr, .int .u64 a.sum, .int .u64 a.zc, .int .u64 a.cnt, u1, u2, u3, u4, u5, u6, u7] 27)).alloc (.cells #[.int .u8 b.hint, .int .i32 b.schema, .int .u64 b.thr, .int .u64 b.sum, .int .u64 b.zc, .int .u64 b.cnt, v1, v2, v3, v4, v5, v6, v7] 27)).cell? ⟨w.heap.size, 5, none⟩ = some (.int .u64 a.cnt) ∧ ((w.alloc (.cells #[.int .u8 a.hint, .int .i32 a.schema, .int .u64 a.thr, .int .u64 a.sum, .int .u64 a.zc, .int .u64 a.cnt, u1, u2, u3, u4, u5, u6, u7] 27)).alloc (.cells #[.int .u8 b.hint, .int .i32 b.schema, .int .u64 b.thr, .int .u64 b.sum, .int .u64 b.zc, .int .u64 b.cnt, v1, v2, v3, v4, v5, v6, v7] 27)).cell? ⟨w.heap.size, 6, none⟩ = some (u1) ∧ ((w.alloc (.cells #[.int .u8 a.hint, .int .i32 a.schema, .int .u64 a.thr, .int .u64 a.sum, .int .u64 a.zc, .int .u64 a.cnt, u1, u2, u3, u4, u5, u6, u7] 27)).alloc (.cells #[.int .u8 b.hint, .int .i32 b.schema, .int .u64 b.thr, .int .u64 b.sum, .int .u64 b.zc, .int .u64 b.cnt, v1, v2, v3, v4, v5, v6, v7] 27)).cell? ⟨w.heap.size, 7, none⟩ = some (u2) ∧ ((w.alloc (.cells #[.int .u8 a.hint, .int .i32 a.schema, .int .u64 a.thr, .int .u64 a.sum, .int .u64 a.zc, .int .u64 a.cnt, u1, u2, u3, u4, u5, u6, u7] 27)).alloc (.cells #[.int .u8 b.hint, .int .i32 b.schema, .int .u64 b.thr, .int .u64 b.sum, .int .u64 b.zc, .int .u64 b.cnt, v1, v2, v3, v4, v5, v6, v7] 27)).cell? ⟨w.heap.size, 8, none⟩ = some (u3) ∧ ((w.alloc (.cells #[.int .u8 a.hint, .int .i32 a.schema, .int .u64 a.thr, .int .u64 a.sum, .int .u64 a.zc, .int .u64 a.cnt, u1, u2, u3, u4, u5, u6, u7] 27)).alloc (.cells #[.int .u8 b.hint, .int .i32 b.schema, .int .u64 b.thr, .int .u64 b.sum, .int .u64 b.zc, .int .u64 b.cnt, v1, v2, v3, v4, v5, v6, v7] 27)).cell? ⟨w.heap.size, 9, none⟩ = some (u4) ∧ ((w.alloc (.cells #[.int .u8 a.hint, .int .i32 a.schema, .int .u64 a.thr, .int .u64 a.sum, .int .u64 a.zc, .int .u64 a.cnt, u1, u2, u3, u4, u5, u6, u7] 27)).alloc (.cells #[.int .u8 b.hint, .int .i32 b.schema, .int .u64 b.thr, .int .u64 b.sum, .int .u64 b.zc, .int .u64 b.cnt, v1, v2, v3, v4, v5, v6, v7] 27)).cell? ⟨w.heap.size, 10, none⟩ = some (u5) ∧ ((w.alloc (.cells #[.int .u8 a.hint, .int .i32 a.schema, .int .u64 a.thr, .int .u64 a.sum, .int .u64 a.zc, .int .u64 a.cnt, u1, u2, u3, u4, u5, u6, u7] 27)).alloc (.cells #[.int .u8 b.hint, .int .i32 b.schema, .int .u64 b.thr, .int .u64 b.sum, .int .u64 b.zc, .int .u64 b.cnt, v1, v2, v3, v4, v5, v6, v7] 27)).cell? ⟨w.heap.size, 11, none⟩ = some (u6) ∧ ((w.alloc (.cells #[.int .u8 a.hint, .int .i32 a.schema, .int .u64 a.thr, .int .u64 a.sum, .int .u64 a.zc, .int .u64 a.cnt, u1, u2, u3, u4, u5, u6, u7] 27)).alloc (.cells #[.int .u8 b.hint, .int .i32 b.schema, .int .u64 b.thr, .int .u64 b.sum, .int .u64 b.zc, .int .u64 b.cnt, v1, v2, v3, v4, v5, v6, v7] 27)).cell? ⟨w.heap.size, 12, none⟩ = some (u7) := ⟨hca 0, hca 1, hca 2, hca 3, hca 4, hca 5, hca 6, hca 7, hca 8, hca 9, hca 10, hca 11, hca 12⟩
  have qb : ((w.alloc (.cells #[.int .u8 a.hint, .int .i32 a.schema, .int .u64 a.thr, .int .u64 a.sum, .int .u64 a.zc, .int .u64 a.cnt, u1, u2, u3, u4, u5, u6, u7] 27)).alloc (.cells #[.int .u8 b.hint, .int .i32 b.schema, .int .u64 b.thr, .int .u64 b.sum, .int .u64 b.zc, .int .u64 b.cnt, v1, v2, v3, v4, v5, v6, v7] 27)).cell? ⟨w.heap.size + 1, 0, none⟩ = some (.int .u8 b.hint) ∧ ((w.alloc (.cells #[.int .u8 a.hint, .int .i32 a.schema, .int .u64 a.thr, .int .u64 a.sum, .int .u64 a.zc, .int .u64 a.cnt, u1, u2, u3, u4, u5, u6, u7] 27)).alloc (.cells #[.int .u8 b.hint, .int .i32 b.schema, .int .u64 b.thr, .int .u64 b.sum, .int .u64 b.zc, .int .u64 b.cnt, v1, v2, v3, v4, v5, v6, v7] 27)).cell? ⟨w.heap.size + 1, 1, none⟩ = some (.int .i32 b.schema) ∧ ((w.alloc (.cells #[.int .u8 a.hint, .int .i32 a.schema, .int .u64 a.thr, .int .u64 a.sum, .int .u64 a.zc, .int .u64 a.cnt, u1, u2, u3, u4, u5, u6, u7] 27)).alloc (.cells #[.int .u8 b.hint, .int .i32 b.schema, .int .u64 b.thr, .int .u64 b.sum, .int .u64 b.zc, .int .u64 b.cnt, v1, v2, v3, v4, v5, v6, v7] 27)).cell? ⟨w.heap.size + 1, 2, none⟩ = some (.int .u64 b.thr) ∧ ((w.alloc (.cells #[.int .u8 a.hint, .int .i32 a.schema, .int .u64 a.thr, .int .u64 a.sum, .int .u64 a.zc, .int .u64 a.cnt, u1, u2, u3, u4, u5, u6, u7] 27)).alloc (.cells #[.int .u8 b.hint, .int .i32 b.schema, .int .u64 b.thr, .int .u64 b.sum, .int .u64 b.zc, .int .u64 b.cnt, v1, v2, v3, v4, v5, v6, v7] 27)).cell? ⟨w.heap.size + 1, 3, none⟩ = some (.int .u64 b.sum) ∧ ((w.alloc (.cells #[.int .u8 a.hint, .int .i32 a.schema, .int .u64 a.thr, .int .u64 a.sum, .int .u64 a.zc, .int .u64 a.cnt, u1, u2, u3, u4, u5, u6, u7] 27)).alloc (.cells #[.int .u8 b.hint, .int .i32 b.schema, .int .u64 b.thr, .int .u64 b.sum, .int .u64 b.zc, .int .u64 b.cnt, v1, v2, v3, v4, v5, v6, v7] 27)).cell? ⟨w.heap.size + 1, 4, none⟩ = some (.int .u64 b.zc) ∧ ((w.alloc (.cells #[.int .u8 a.hint, .int .i32 a.schema, .int .u64 a.thr, .int .u64 a.sum, .int .u64 a.zc, .int .u64 a.cnt, u1, u2, u3, u4, u5, u6, u7] 27)).alloc (.cells #[.int .u8 b.hint, .int .i32 b.schema, .int .u64 b.thr, .int .u64 b.sum, .int .u64 b.zc, .int .u64 b.cnt, v1, v2, v3, v4, v5, v6, v7] 27)).cell? ⟨w.heap.size + 1, 5, none⟩ = some (.int .u64 b.cnt) ∧ ((w.alloc (.cells #[.int .u8 a.hint, .int .i32 a.schema, .int .u64 a.thr, .int .u64 a.sum, .int .u64 a.zc, .int .u64 a.cnt, u1, u2, u3, u4, u5, u6, u7] 27)).alloc (.cells #[.int .u8 b.hint, .int .i32 b.schema, .int .u64 b.thr, .int .u64 b.sum, .int .u64 b.zc, .int .u64 b.cnt, v1, v2, v3, v4, v5, v6, v7] 27)).cell? ⟨w.heap.size + 1, 6, none⟩ = some (v1) ∧ ((w.alloc (.cells #[.int .u8 a.hint, .int .i32 a.schema, .int .u64 a.thr, .int .u64 a.sum, .int .u64 a.zc, .int .u64 a.cnt, u1, u2, u3, u4, u5, u6, u7] 27)).alloc (.cells #[.int .u8 b.hint, .int .i32 b.schema, .int .u64 b.thr, .int .u64 b.sum, .int .u64 b.zc, .int .u64 b.cnt, v1, v2, v3, v4, v5, v6, v7] 27)).cell? ⟨w.heap.size + 1, 7, none⟩ = some (v2) ∧ ((w.alloc (.cells #[.int .u8 a.hint, .int .i32 a.schema, .int .u64 a.thr, .int .u64 a.sum, .int .u64 a.zc, .int .u64 a.cnt, u1, u2, u3, u4, u5, u6, u7] 27)).alloc (.cells #[.int .u8 b.hint, .int .i32 b.schema, .int .u64 b.thr, .int .u64 b.sum, .int .u64 b.zc, .int .u64 b.cnt, v1, v2, v3, v4, v5, v6, v7] 27)).cell? ⟨w.heap.size + 1, 8, none⟩ = some (v3) ∧ ((w.alloc (.cells #[.int .u8 a.hint, .int .i32 a.schema, .int .u64 a.thr, .int .u64 a.sum, .int .u64 a.zc, .int .u64 a.cnt, u1, u2, u3, u4, u5, u6, u7] 27)).alloc (.cells #[.int .u8 b.hint, .int .i32 b.schema, .int .u64 b.thr, .int .u64 b.sum, .int .u64 b.zc, .int .u64 b.cnt, v1, v2, v3, v4, v5, v6, v7] 27)).cell? ⟨w.heap.size + 1, 9, none⟩ = some (v4) ∧ ((w.alloc (.cells #[.int .u8 a.hint, .int .i32 a.schema, .int .u64 a.thr, .int .u64 a.sum, .int .u64 a.zc, .int .u64 a.cnt, u1, u2, u3, u4, u5, u6, u7] 27)).alloc (.cells #[.int .u8 b.hint, .int .i32 b.schema, .int .u64 b.thr, .int .u64 b.sum, .int .u64 b.zc, .int .u64 b.cnt, v1, v2, v3, v4, v5, v6, v7] 27)).cell? ⟨w.heap.size + 1, 10, none⟩ = some (v5) ∧ ((w.alloc (.cells #[.int .u8 a.hint, .int .i32 a.schema, .int .u64 a.thr, .int .u64 a.sum, .int .u64 a.zc, .int .u64 a.cnt, u1, u2, u3, u4, u5, u6, u7] 27)).alloc (.cells #[.int .u8 b.hint, .int .i32 b.schema, .int .u64 b.thr, .int .u64 b.sum, .int .u64 b.zc, .int .u64 b.cnt, v1, v2, v3, v4, v5, v6, v7] 27)).cell? ⟨w.heap.size + 1, 11, none⟩ = some (v6) ∧ ((w.alloc (.cells #[.int .u8 a.hint, .int .i32 a.schema, .int .u64 a.thr, .int .u64 a.sum, .int .u64 a.zc, .int .u64 a.cnt, u1, u2, u3, u4, u5, u6, u7] 27)).alloc (.cells #[.int .u8 b.hint, .int .i32 b.schema, .int .u64 b.thr, .int .u64 b.sum, .int .u64 b.zc, .int .u64 b.cnt, v1, v2, v3, v4, v5, v6, v7] 27)).cell? ⟨w.heap.size + 1, 12, none⟩ = some (v7) := ⟨hcb 0, hcb 1, hcb 2, hcb 3, hcb 4, hcb 5, hcb 6, hcb 7, hcb 8, hcb 9, hcb 10, hcb 11, hcb 12⟩
  clear hca hcb h2 h3
  have e1 : (a.schema == b.schema) = true := by rw [hs.schema]; simp
  have e2 : ((a.thr : Int) == (b.thr : Int)) = true := by rw [hs.thr]; simp
  have e3 : (((nb a.sum : Nat) : Int) == ((nb b.sum : Nat) : Int)) = true := by rw [hs.sum]; simp
  have e4 : (((nb a.zc : Nat) : Int) == ((nb b.zc : Nat) : Int)) = true := by rw [hs.zc]; simp
  have e5 : (((nb a.cnt : Nat) : Int) == ((nb b.cnt : Nat) : Int)) = true := by rw [hs.cnt]; simp
  go_enter Tryd.func18, Tryd.ntmps18
  go_wp2_with fail
  have hQA := Lib.hid qa
  have hQB := Lib.hid qb
  have hN := Lib.hid hn
  clear qa qb hn
  generalize (w.alloc _).alloc _ = W at *
  have hn := hN.out
  have hza : w.heap.size < W.heap.size := by omega
  have hzb : w.heap.size + 1 < W.heap.size := by omega
  clear hn hN
  have haW := (ha.below hB0 (Nat.le_refl _)).mono hB0.size (Nat.le_refl _)
  have hbW := (hb.below hB0 (Nat.le_refl _)).mono hB0.size (Nat.le_refl _)
  refine (near_any u1 u2 u3 u4 u5 u6 u7 a W haW fa wa na.1 na.2).mono ?_
  rintro e w1 ⟨p1, n1, d1, p2, n2, d2, s1, rfl, o1, o2, hb1⟩
  have hqa1 := keep13 hb1 hza hQA.out
  have hqb1 := keep13 hb1 hzb hQB.out
  have hB1 := hB0.trans (hb1.mono hB0.size)
  have hz1 := hb1.size
  go_wp2_with fail
  have HA1 := Lib.hid hqa1
  have HB1 := Lib.hid hqb1
  clear hqa1 hqb1
  refine (near_any v1 v2 v3 v4 v5 v6 v7 b w1 ((hb.below hB1 (Nat.le_refl _)).mono hB1.size (Nat.le_refl _)) fb wb nbb.1 nbb.2).mono ?_
  rintro e w2 ⟨p3, n3, d3, p4, n4, d4, s2, rfl, o3, o4, hb2⟩
  have hqa2 := keep13 hb2 (by omega) HA1.out
  have hqb2 := keep13 hb2 (by omega) HB1.out
  have hB2 := hB1.trans (hb2.mono hB1.size)
  have hz2 := hb2.size
  replace o1 := o1.below hb2 (by have := o2.le; omega)
  replace o2 := o2.below hb2 (Nat.le_refl _)
  rw [hs.ups] at o1
  rw [hs.downs] at o2
  have lu : (fill ((ups true b).map nbp)).length ≤ 2147483647 := Nat.le_trans (List.length_filter_le _ _) (by rw [List.length_map]; exact Nat.le_trans (bkts_len true b.pos b.ups b.fups) fb.fups)
  have ld : (fill ((downs true b).map nbp)).length ≤ 2147483647 := Nat.le_trans (List.length_filter_le _ _) (by rw [List.length_map]; exact Nat.le_trans (bkts_len true b.neg b.downs b.fdowns) fb.fdowns)
  generalize fill ((ups true b).map nbp) = U at *
  generalize fill ((downs true b).map nbp) = D at *
  go_wp2_with fail
  have hS : w2.drew.cell? ⟨w.heap.size, 1, none⟩ = some (.int .i32 a.schema) ∧ w2.drew.cell? ⟨w.heap.size, 2, none⟩ = some (.int .u64 (a.thr : Int)) ∧ w2.drew.cell? ⟨w.heap.size, 3, none⟩ = some (.int .u64 (a.sum : Int)) ∧ w2.drew.cell? ⟨w.heap.size, 4, none⟩ = some (.int .u64 (a.zc : Int)) ∧ w2.drew.cell? ⟨w.heap.size, 5, none⟩ = some (.int .u64 (a.cnt : Int)) ∧ w2.drew.cell? ⟨w.heap.size, 12, none⟩ = some u7 ∧ w2.drew.cell? ⟨w.heap.size + 1, 1, none⟩ = some (.int .i32 b.schema) ∧ w2.drew.cell? ⟨w.heap.size + 1, 2, none⟩ = some (.int .u64 (b.thr : Int)) ∧ w2.drew.cell? ⟨w.heap.size + 1, 3, none⟩ = some (.int .u64 (b.sum : Int)) ∧ w2.drew.cell? ⟨w.heap.size + 1, 4, none⟩ = some (.int .u64 (b.zc : Int)) ∧ w2.drew.cell? ⟨w.heap.size + 1, 5, none⟩ = some (.int .u64 (b.cnt : Int)) ∧ w2.drew.cell? ⟨w.heap.size + 1, 12, none⟩ = some v7 := ⟨hqa2.2.1, hqa2.2.2.1, hqa2.2.2.2.1, hqa2.2.2.2.2.1, hqa2.2.2.2.2.2.1, hqa2.2.2.2.2.2.2.2.2.2.2.2.2, hqb2.2.1, hqb2.2.2.1, hqb2.2.2.2.1, hqb2.2.2.2.2.1, hqb2.2.2.2.2.2.1, hqb2.2.2.2.2.2.2.2.2.2.2.2.2⟩
  have hB2d : Below w.heap.size w w2.drew := hB2.drew
  have hpz : w.heap.size + 1 < w2.heap.size := by omega
  have hpzd : w.heap.size + 1 < w2.drew.heap.size := hpz
  have hwd : w2.drew.heap.size = w2.heap.size := rfl
  have q1 := o1.below ((Below.refl w2.heap.size w2).drew) (by have := o2.le; omega)
  have q2 := o2.below ((Below.refl w2.heap.size w2).drew) (by omega)
  have q3 := o3.below ((Below.refl w2.heap.size w2).drew) (by have := o4.le; omega)
  have q4 := o4.below ((Below.refl w2.heap.size w2).drew) (Nat.le_refl _)
  have l2 := o2.le
  have l4 := o4.le
  clear hqa2 hqb2 o1 o2 o3 o4 HA1 HB1
  go_region_held3 (fun w' => w'.cell? ⟨w.heap.size, 1, none⟩ = some (.int .i32 a.schema) ∧ w'.cell? ⟨w.heap.size, 2, none⟩ = some (.int .u64 (a.thr : Int)) ∧ w'.cell? ⟨w.heap.size, 3, none⟩ = some (.int .u64 (a.sum : Int)) ∧ w'.cell? ⟨w.heap.size, 4, none⟩ = some (.int .u64 (a.zc : Int)) ∧ w'.cell? ⟨w.heap.size, 5, none⟩ = some (.int .u64 (a.cnt : Int)) ∧ w'.cell? ⟨w.heap.size, 12, none⟩ = some u7 ∧ w'.cell? ⟨w.heap.size + 1, 1, none⟩ = some (.int .i32 b.schema) ∧ w'.cell? ⟨w.heap.size + 1, 2, none⟩ = some (.int .u64 (b.thr : Int)) ∧ w'.cell? ⟨w.heap.size + 1, 3, none⟩ = some (.int .u64 (b.sum : Int)) ∧ w'.cell? ⟨w.heap.size + 1, 4, none⟩ = some (.int .u64 (b.zc : Int)) ∧ w'.cell? ⟨w.heap.size + 1, 5, none⟩ = some (.int .u64 (b.cnt : Int)) ∧ w'.cell? ⟨w.heap.size + 1, 12, none⟩ = some v7) (first | (with_reducible assumption) | (with_reducible exact keepN hb5 (by omega) (by assumption)) | (with_reducible exact keepN hb4 (by omega) (by assumption)) | (with_reducible exact keepN hb3 (by omega) (by assumption)) | go_keep)
    (first
      | (go_at_call 50; refine (nearBits_any _ _).mono ?_; rintro e w' ⟨rfl, rfl⟩)
      | (go_at_call 51; refine (sameBits_eq _ _ a.cus b.cus w.heap.size _ (ha.cus.below hB2d (Nat.le_refl _)) (hb.cus.below hB2d (Nat.le_refl _)) fa.cus hs.cus).mono ?_; rintro e w3 ⟨rfl, hb3⟩; have hB3 := hB2d.trans (hb3.mono hB2d.size); have hz3 := hb3.size; have r1 := q1.below hb3 (by omega); have r2 := q2.below hb3 (by omega); have r3 := q3.below hb3 (by omega); have r4 := q4.below hb3 (by omega))
      | (go_at_call 52; with_reducible (show Calls _ _ #[.slice p1 _ _, _] _ _); refine (sameBuckets_eq _ _ U w3.heap.size w3 r1.bkts r3.bkts lu).mono ?_; rintro e w4 ⟨rfl, hb4⟩; have hB4 := hB3.trans (hb4.mono hB3.size); have hz4 := hb4.size; have t2 := r2.below hb4 (by omega); have t4 := r4.below hb4 (by omega))
      | (go_at_call 52; with_reducible (show Calls _ _ #[.slice p2 _ _, _] _ _); refine (sameBuckets_eq _ _ D w4.heap.size w4 t2.bkts t4.bkts ld).mono ?_; rintro e w5 ⟨rfl, hb5⟩; have hB5 := hB4.trans (hb5.mono hB4.size))
      | fail)
  go_wp2
  go_ret
  exact ⟨rfl, hB5⟩
end Go.Proofs.YtbgkoapnejnfbaaDoor
