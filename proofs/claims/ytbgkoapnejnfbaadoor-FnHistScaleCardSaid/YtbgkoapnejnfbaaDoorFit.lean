/-
 Which histograms the laws speak of: the walk.
-/
import Derived.Test.YtbgkoapnejnfbaaDoorFitDef
namespace Go.Proofs.YtbgkoapnejnfbaaDoor
set_option linter.unusedSimpArgs false
set_option linter.unusedVariables false
open Go.RowKit
attribute [local go_sem ↓] Go.wp_at_zero Go.wp_at_succ

set_option maxRecDepth 100000 in
set_option maxHeartbeats 16000000 in
theorem fit_any (fl : Bool) (v1 v2 v3 v4 v5 v6 v7 : Value) (h : Hist) (w : World) (ha : HistAt w w.heap.size v1 v2 v3 v4 v5 v6 v7 h) (hf : Fits h) (hw : Wf h) (cus : Bool) (hcs : (h.schema == -53) = cus) :
  Calls Tryd.prog 13 #[.agg (histCells h v1 v2 v3 v4 v5 v6 v7), (.bool fl)] w (FitPost fl h w) := by
 unfold histCells
 obtain ⟨a1, c1, rfl, f11, f12⟩ := ha.pos.form
 obtain ⟨a2, c2, rfl, f21, f22⟩ := ha.neg.form
 obtain ⟨a3, c3, rfl, f31, f32⟩ := ha.ups.form
 obtain ⟨a4, c4, rfl, f41, f42⟩ := ha.downs.form
 obtain ⟨a5, c5, rfl, f51, f52⟩ := ha.fups.form
 obtain ⟨a6, c6, rfl, f61, f62⟩ := ha.fdowns.form
 obtain ⟨a7, c7, rfl, f71, f72⟩ := ha.cus.form
 simp only [List.length_map] at ha f51 f61 f71
 have hB0 : Below w.heap.size w (w.alloc (.cells #[.int .u8 h.hint, .int .i32 h.schema, .int .u64 h.thr, .int .u64 h.sum, .int .u64 h.zc, .int .u64 h.cnt, .slice a1 h.pos.length c1, .slice a2 h.neg.length c2, .slice a3 h.ups.length c3, .slice a4 h.downs.length c4, .slice a5 h.fups.length c5, .slice a6 h.fdowns.length c6, .slice a7 h.cus.length c7] 27)) := (Below.refl w.heap.size w).alloc (Nat.le_refl _) _
 go_enter Tryd.func13, Tryd.ntmps13
 simp only [List.length_map]
 have hcells : ∀ i, (w.alloc (.cells #[.int .u8 h.hint, .int .i32 h.schema, .int .u64 h.thr, .int .u64 h.sum, .int .u64 h.zc, .int .u64 h.cnt, .slice a1 h.pos.length c1, .slice a2 h.neg.length c2, .slice a3 h.ups.length c3, .slice a4 h.downs.length c4, .slice a5 h.fups.length c5, .slice a6 h.fdowns.length c6, .slice a7 h.cus.length c7] 27)).cell? ⟨w.heap.size, i, none⟩ = #[(.int .u8 h.hint : Value), .int .i32 h.schema, .int .u64 h.thr, .int .u64 h.sum, .int .u64 h.zc, .int .u64 h.cnt, .slice a1 h.pos.length c1, .slice a2 h.neg.length c2, .slice a3 h.ups.length c3, .slice a4 h.downs.length c4, .slice a5 h.fups.length c5, .slice a6 h.fdowns.length c6, .slice a7 h.cus.length c7][i]? := fun i => cells_of_block (heap_alloc_new w _) i
 have q0 : (w.alloc (.cells #[.int .u8 h.hint, .int .i32 h.schema, .int .u64 h.thr, .int .u64 h.sum, .int .u64 h.zc, .int .u64 h.cnt, .slice a1 h.pos.length c1, .slice a2 h.neg.length c2, .slice a3 h.ups.length c3, .slice a4 h.downs.length c4, .slice a5 h.fups.length c5, .slice a6 h.fdowns.length c6, .slice a7 h.cus.length c7] 27)).cell? ⟨w.heap.size, 0, none⟩ = some (.int .u8 h.hint) := hcells 0
 have q1 : (w.alloc (.cells #[.int .u8 h.hint, .int .i32 h.schema, .int .u64 h.thr, .int .u64 h.sum, .int .u64 h.zc, .int .u64 h.cnt, .slice a1 h.pos.length c1, .slice a2 h.neg.length c2, .slice a3 h.ups.length c3, .slice a4 h.downs.length c4, .slice a5 h.fups.length c5, .slice a6 h.fdowns.length c6, .slice a7 h.cus.length c7] 27)).cell? ⟨w.heap.size, 1, none⟩ = some (.int .i32 h.schema) := hcells 1
 have q2 : (w.alloc (.cells #[.int .u8 h.hint, .int .i32 h.schema, .int .u64 h.thr, .int .u64 h.sum, .int .u64 h.zc, .int .u64 h.cnt, .slice a1 h.pos.length c1, .slice a2 h.neg.length c2, .slice a3 h.ups.length c3, .slice a4 h.downs.length c4, .slice a5 h.fups.length c5, .slice a6 h.fdowns.length c6, .slice a7 h.cus.length c7] 27)).cell? ⟨w.heap.size, 2, none⟩ = some (.int .u64 h.thr) := hcells 2
 have q3 : (w.alloc (.cells #[.int .u8 h.hint, .int .i32 h.schema, .int .u64 h.thr, .int .u64 h.sum, .int .u64 h.zc, .int .u64 h.cnt, .slice a1 h.pos.length c1, .slice a2 h.neg.length c2, .slice a3 h.ups.length c3, .slice a4 h.downs.length c4, .slice a5 h.fups.length c5, .slice a6 h.fdowns.length c6, .slice a7 h.cus.length c7] 27)).cell? ⟨w.heap.size, 3, none⟩ = some (.int .u64 h.sum) := hcells 3
 have q4 : (w.alloc (.cells #[.int .u8 h.hint, .int .i32 h.schema, .int .u64 h.thr, .int .u64 h.sum, .int .u64 h.zc, .int .u64 h.cnt, .slice a1 h.pos.length c1, .slice a2 h.neg.length c2, .slice a3 h.ups.length c3, .slice a4 h.downs.length c4, .slice a5 h.fups.length c5, .slice a6 h.fdowns.length c6, .slice a7 h.cus.length c7] 27)).cell? ⟨w.heap.size, 4, none⟩ = some (.int .u64 h.zc) := hcells 4
 have q5 : (w.alloc (.cells #[.int .u8 h.hint, .int .i32 h.schema, .int .u64 h.thr, .int .u64 h.sum, .int .u64 h.zc, .int .u64 h.cnt, .slice a1 h.pos.length c1, .slice a2 h.neg.length c2, .slice a3 h.ups.length c3, .slice a4 h.downs.length c4, .slice a5 h.fups.length c5, .slice a6 h.fdowns.length c6, .slice a7 h.cus.length c7] 27)).cell? ⟨w.heap.size, 5, none⟩ = some (.int .u64 h.cnt) := hcells 5
 have q6 : (w.alloc (.cells #[.int .u8 h.hint, .int .i32 h.schema, .int .u64 h.thr, .int .u64 h.sum, .int .u64 h.zc, .int .u64 h.cnt, .slice a1 h.pos.length c1, .slice a2 h.neg.length c2, .slice a3 h.ups.length c3, .slice a4 h.downs.length c4, .slice a5 h.fups.length c5, .slice a6 h.fdowns.length c6, .slice a7 h.cus.length c7] 27)).cell? ⟨w.heap.size, 6, none⟩ = some (.slice a1 h.pos.length c1) := hcells 6
 have q7 : (w.alloc (.cells #[.int .u8 h.hint, .int .i32 h.schema, .int .u64 h.thr, .int .u64 h.sum, .int .u64 h.zc, .int .u64 h.cnt, .slice a1 h.pos.length c1, .slice a2 h.neg.length c2, .slice a3 h.ups.length c3, .slice a4 h.downs.length c4, .slice a5 h.fups.length c5, .slice a6 h.fdowns.length c6, .slice a7 h.cus.length c7] 27)).cell? ⟨w.heap.size, 7, none⟩ = some (.slice a2 h.neg.length c2) := hcells 7
 have q8 : (w.alloc (.cells #[.int .u8 h.hint, .int .i32 h.schema, .int .u64 h.thr, .int .u64 h.sum, .int .u64 h.zc, .int .u64 h.cnt, .slice a1 h.pos.length c1, .slice a2 h.neg.length c2, .slice a3 h.ups.length c3, .slice a4 h.downs.length c4, .slice a5 h.fups.length c5, .slice a6 h.fdowns.length c6, .slice a7 h.cus.length c7] 27)).cell? ⟨w.heap.size, 8, none⟩ = some (.slice a3 h.ups.length c3) := hcells 8
 have q9 : (w.alloc (.cells #[.int .u8 h.hint, .int .i32 h.schema, .int .u64 h.thr, .int .u64 h.sum, .int .u64 h.zc, .int .u64 h.cnt, .slice a1 h.pos.length c1, .slice a2 h.neg.length c2, .slice a3 h.ups.length c3, .slice a4 h.downs.length c4, .slice a5 h.fups.length c5, .slice a6 h.fdowns.length c6, .slice a7 h.cus.length c7] 27)).cell? ⟨w.heap.size, 9, none⟩ = some (.slice a4 h.downs.length c4) := hcells 9
 have q10 : (w.alloc (.cells #[.int .u8 h.hint, .int .i32 h.schema, .int .u64 h.thr, .int .u64 h.sum, .int .u64 h.zc, .int .u64 h.cnt, .slice a1 h.pos.length c1, .slice a2 h.neg.length c2, .slice a3 h.ups.length c3, .slice a4 h.downs.length c4, .slice a5 h.fups.length c5, .slice a6 h.fdowns.length c6, .slice a7 h.cus.length c7] 27)).cell? ⟨w.heap.size, 10, none⟩ = some (.slice a5 h.fups.length c5) := hcells 10
 have q11 : (w.alloc (.cells #[.int .u8 h.hint, .int .i32 h.schema, .int .u64 h.thr, .int .u64 h.sum, .int .u64 h.zc, .int .u64 h.cnt, .slice a1 h.pos.length c1, .slice a2 h.neg.length c2, .slice a3 h.ups.length c3, .slice a4 h.downs.length c4, .slice a5 h.fups.length c5, .slice a6 h.fdowns.length c6, .slice a7 h.cus.length c7] 27)).cell? ⟨w.heap.size, 11, none⟩ = some (.slice a6 h.fdowns.length c6) := hcells 11
 have q12 : (w.alloc (.cells #[.int .u8 h.hint, .int .i32 h.schema, .int .u64 h.thr, .int .u64 h.sum, .int .u64 h.zc, .int .u64 h.cnt, .slice a1 h.pos.length c1, .slice a2 h.neg.length c2, .slice a3 h.ups.length c3, .slice a4 h.downs.length c4, .slice a5 h.fups.length c5, .slice a6 h.fdowns.length c6, .slice a7 h.cus.length c7] 27)).cell? ⟨w.heap.size, 12, none⟩ = some (.slice a7 h.cus.length c7) := hcells 12
 clear hcells
 go_upto_region 2 with fail
 have hz : w.heap.size < (w.alloc (.cells #[.int .u8 h.hint, .int .i32 h.schema, .int .u64 h.thr, .int .u64 h.sum, .int .u64 h.zc, .int .u64 h.cnt, .slice a1 h.pos.length c1, .slice a2 h.neg.length c2, .slice a3 h.ups.length c3, .slice a4 h.downs.length c4, .slice a5 h.fups.length c5, .slice a6 h.fdowns.length c6, .slice a7 h.cus.length c7] 27)).heap.size := by simp
 generalize w.alloc _ = W0 at *
 have HX := And.intro hf (And.intro hw ha)
 clear hf hw ha f11 f12 f21 f22 f31 f32 f41 f42 f51 f52 f61 f62 f71 f72
 obtain ⟨B21, hB21⟩ : ∃ B : Bool, RowKit.Hid (B = (decide (((3 : Int)) < ((h.hint : Int))))) := ⟨_, rfl⟩
 obtain ⟨C23, hC23⟩ : ∃ B : Bool, RowKit.Hid (B = (true && (B21 == false))) := ⟨_, rfl⟩
 obtain ⟨B24, hB24⟩ : ∃ B : Bool, RowKit.Hid (B = (!(cus))) := ⟨_, rfl⟩
 obtain ⟨C26, hC26⟩ : ∃ B : Bool, RowKit.Hid (B = (C23 && (B24 == true))) := ⟨_, rfl⟩
 obtain ⟨B28, hB28⟩ : ∃ B : Bool, RowKit.Hid (B = (decide (((h.schema : Int)) < ((-4 : Int))))) := ⟨_, rfl⟩
 obtain ⟨C30, hC30⟩ : ∃ B : Bool, RowKit.Hid (B = (C26 && (B28 == false))) := ⟨_, rfl⟩
 obtain ⟨B32, hB32⟩ : ∃ B : Bool, RowKit.Hid (B = (decide (((8 : Int)) < ((h.schema : Int))))) := ⟨_, rfl⟩
 obtain ⟨B33, hB33⟩ : ∃ B : Bool, RowKit.Hid (B = ((B28) || (B32))) := ⟨_, rfl⟩
 obtain ⟨C35, hC35⟩ : ∃ B : Bool, RowKit.Hid (B = (C26 && (B33 == false))) := ⟨_, rfl⟩
 obtain ⟨B38, hB38⟩ : ∃ B : Bool, RowKit.Hid (B = (decide (((0 : Int)) < (((h.cus.length : Int) : Int))))) := ⟨_, rfl⟩
 obtain ⟨B39, hB39⟩ : ∃ B : Bool, RowKit.Hid (B = ((B33) || (B38))) := ⟨_, rfl⟩
 obtain ⟨B40, hB40⟩ : ∃ B : Bool, RowKit.Hid (B = ((B24) && (B39))) := ⟨_, rfl⟩
 obtain ⟨B41, hB41⟩ : ∃ B : Bool, RowKit.Hid (B = ((B21) || (B40))) := ⟨_, rfl⟩
 obtain ⟨C43, hC43⟩ : ∃ B : Bool, RowKit.Hid (B = (true && (B41 == false))) := ⟨_, rfl⟩
 obtain ⟨B45, hB45⟩ : ∃ B : Bool, RowKit.Hid (B = (plain ((h.thr : Int)))) := ⟨_, rfl⟩
 obtain ⟨B46, hB46⟩ : ∃ B : Bool, RowKit.Hid (B = (!(B45))) := ⟨_, rfl⟩
 obtain ⟨B47, hB47⟩ : ∃ B : Bool, RowKit.Hid (B = ((B41) || (B46))) := ⟨_, rfl⟩
 obtain ⟨C49, hC49⟩ : ∃ B : Bool, RowKit.Hid (B = (true && (B47 == false))) := ⟨_, rfl⟩
 obtain ⟨B51, hB51⟩ : ∃ B : Bool, RowKit.Hid (B = (((((h.sum : Int) : Int)) == ((9218868437227405314 : Int))))) := ⟨_, rfl⟩
 obtain ⟨B52, hB52⟩ : ∃ B : Bool, RowKit.Hid (B = ((B47) || (B51))) := ⟨_, rfl⟩
 obtain ⟨C54, hC54⟩ : ∃ B : Bool, RowKit.Hid (B = (true && (B52 == false))) := ⟨_, rfl⟩
 obtain ⟨B57, hB57⟩ : ∃ B : Bool, RowKit.Hid (B = (decide (((60 : Int)) < (((h.ups.length : Int) : Int))))) := ⟨_, rfl⟩
 obtain ⟨B58, hB58⟩ : ∃ B : Bool, RowKit.Hid (B = ((B52) || (B57))) := ⟨_, rfl⟩
 obtain ⟨C60, hC60⟩ : ∃ B : Bool, RowKit.Hid (B = (true && (B58 == false))) := ⟨_, rfl⟩
 obtain ⟨B63, hB63⟩ : ∃ B : Bool, RowKit.Hid (B = (decide (((60 : Int)) < (((h.downs.length : Int) : Int))))) := ⟨_, rfl⟩
 obtain ⟨B64, hB64⟩ : ∃ B : Bool, RowKit.Hid (B = ((B58) || (B63))) := ⟨_, rfl⟩
 obtain ⟨C66, hC66⟩ : ∃ B : Bool, RowKit.Hid (B = (true && (B64 == false))) := ⟨_, rfl⟩
 obtain ⟨B69, hB69⟩ : ∃ B : Bool, RowKit.Hid (B = (decide (((60 : Int)) < (((h.fups.length : Int) : Int))))) := ⟨_, rfl⟩
 obtain ⟨B70, hB70⟩ : ∃ B : Bool, RowKit.Hid (B = ((B64) || (B69))) := ⟨_, rfl⟩
 obtain ⟨C72, hC72⟩ : ∃ B : Bool, RowKit.Hid (B = (true && (B70 == false))) := ⟨_, rfl⟩
 obtain ⟨B75, hB75⟩ : ∃ B : Bool, RowKit.Hid (B = (decide (((60 : Int)) < (((h.fdowns.length : Int) : Int))))) := ⟨_, rfl⟩
 obtain ⟨B76, hB76⟩ : ∃ B : Bool, RowKit.Hid (B = ((B70) || (B75))) := ⟨_, rfl⟩
 obtain ⟨C78, hC78⟩ : ∃ B : Bool, RowKit.Hid (B = (true && (B76 == false))) := ⟨_, rfl⟩
 obtain ⟨B81, hB81⟩ : ∃ B : Bool, RowKit.Hid (B = (decide (((60 : Int)) < (((h.pos.length : Int) : Int))))) := ⟨_, rfl⟩
 obtain ⟨B82, hB82⟩ : ∃ B : Bool, RowKit.Hid (B = ((B76) || (B81))) := ⟨_, rfl⟩
 obtain ⟨C84, hC84⟩ : ∃ B : Bool, RowKit.Hid (B = (true && (B82 == false))) := ⟨_, rfl⟩
 obtain ⟨B87, hB87⟩ : ∃ B : Bool, RowKit.Hid (B = (decide (((60 : Int)) < (((h.neg.length : Int) : Int))))) := ⟨_, rfl⟩
 obtain ⟨B88, hB88⟩ : ∃ B : Bool, RowKit.Hid (B = ((B82) || (B87))) := ⟨_, rfl⟩
 obtain ⟨C90, hC90⟩ : ∃ B : Bool, RowKit.Hid (B = (true && (B88 == false))) := ⟨_, rfl⟩
 obtain ⟨B93, hB93⟩ : ∃ B : Bool, RowKit.Hid (B = (decide (((60 : Int)) < (((h.cus.length : Int) : Int))))) := ⟨_, rfl⟩
 obtain ⟨B94, hB94⟩ : ∃ B : Bool, RowKit.Hid (B = ((B88) || (B93))) := ⟨_, rfl⟩
 obtain ⟨F, hF⟩ : ∃ F : Tmp → Value → Prop, F = (fun s zz => match s with
   | 19 => zz = .pointer (some ⟨w.heap.size, 0, none⟩)
   | 20 => zz = .int .u8 (h.hint)
   | 21 => zz = .bool B21
   | 22 => zz = .bool B21
   | 23 => zz = if C23 = true then .bool cus else undef
   | 24 => zz = if C23 = true then .bool B24 else undef
   | 25 => zz = if C23 = true then .bool B24 else undef
   | 26 => zz = if C26 = true then .pointer (some ⟨w.heap.size, 1, none⟩) else undef
   | 27 => zz = if C26 = true then .int .i32 (h.schema) else undef
   | 28 => zz = if C26 = true then .bool B28 else undef
   | 29 => zz = if C26 = true then .bool B28 else undef
   | 30 => zz = if C30 = true then .pointer (some ⟨w.heap.size, 1, none⟩) else undef
   | 31 => zz = if C30 = true then .int .i32 (h.schema) else undef
   | 32 => zz = if C30 = true then .bool B32 else undef
   | 33 => zz = if C26 = true then .bool B33 else undef
   | 34 => zz = if C26 = true then .bool B33 else undef
   | 35 => zz = if C35 = true then .pointer (some ⟨w.heap.size, 12, none⟩) else undef
   | 36 => zz = if C35 = true then .slice a7 h.cus.length c7 else undef
   | 37 => zz = if C35 = true then .int .i64 ((h.cus.length : Int)) else undef
   | 38 => zz = if C35 = true then .bool B38 else undef
   | 39 => zz = if C26 = true then .bool B39 else undef
   | 40 => zz = if C23 = true then .bool B40 else undef
   | 41 => zz = .bool B41
   | 42 => zz = .bool B41
   | 43 => zz = if C43 = true then .pointer (some ⟨w.heap.size, 2, none⟩) else undef
   | 44 => zz = if C43 = true then .int .u64 ((h.thr : Int)) else undef
   | 45 => zz = if C43 = true then .bool B45 else undef
   | 46 => zz = if C43 = true then .bool B46 else undef
   | 47 => zz = .bool B47
   | 48 => zz = .bool B47
   | 49 => zz = if C49 = true then .pointer (some ⟨w.heap.size, 3, none⟩) else undef
   | 50 => zz = if C49 = true then .int .u64 ((h.sum : Int)) else undef
   | 51 => zz = if C49 = true then .bool B51 else undef
   | 52 => zz = .bool B52
   | 53 => zz = .bool B52
   | 54 => zz = if C54 = true then .pointer (some ⟨w.heap.size, 8, none⟩) else undef
   | 55 => zz = if C54 = true then .slice a3 h.ups.length c3 else undef
   | 56 => zz = if C54 = true then .int .i64 ((h.ups.length : Int)) else undef
   | 57 => zz = if C54 = true then .bool B57 else undef
   | 58 => zz = .bool B58
   | 59 => zz = .bool B58
   | 60 => zz = if C60 = true then .pointer (some ⟨w.heap.size, 9, none⟩) else undef
   | 61 => zz = if C60 = true then .slice a4 h.downs.length c4 else undef
   | 62 => zz = if C60 = true then .int .i64 ((h.downs.length : Int)) else undef
   | 63 => zz = if C60 = true then .bool B63 else undef
   | 64 => zz = .bool B64
   | 65 => zz = .bool B64
   | 66 => zz = if C66 = true then .pointer (some ⟨w.heap.size, 10, none⟩) else undef
   | 67 => zz = if C66 = true then .slice a5 h.fups.length c5 else undef
   | 68 => zz = if C66 = true then .int .i64 ((h.fups.length : Int)) else undef
   | 69 => zz = if C66 = true then .bool B69 else undef
   | 70 => zz = .bool B70
   | 71 => zz = .bool B70
   | 72 => zz = if C72 = true then .pointer (some ⟨w.heap.size, 11, none⟩) else undef
   | 73 => zz = if C72 = true then .slice a6 h.fdowns.length c6 else undef
   | 74 => zz = if C72 = true then .int .i64 ((h.fdowns.length : Int)) else undef
   | 75 => zz = if C72 = true then .bool B75 else undef
   | 76 => zz = .bool B76
   | 77 => zz = .bool B76
   | 78 => zz = if C78 = true then .pointer (some ⟨w.heap.size, 6, none⟩) else undef
   | 79 => zz = if C78 = true then .slice a1 h.pos.length c1 else undef
   | 80 => zz = if C78 = true then .int .i64 ((h.pos.length : Int)) else undef
   | 81 => zz = if C78 = true then .bool B81 else undef
   | 82 => zz = .bool B82
   | 83 => zz = .bool B82
   | 84 => zz = if C84 = true then .pointer (some ⟨w.heap.size, 7, none⟩) else undef
   | 85 => zz = if C84 = true then .slice a2 h.neg.length c2 else undef
   | 86 => zz = if C84 = true then .int .i64 ((h.neg.length : Int)) else undef
   | 87 => zz = if C84 = true then .bool B87 else undef
   | 88 => zz = .bool B88
   | 89 => zz = .bool B88
   | 90 => zz = if C90 = true then .pointer (some ⟨w.heap.size, 12, none⟩) else undef
   | 91 => zz = if C90 = true then .slice a7 h.cus.length c7 else undef
   | 92 => zz = if C90 = true then .int .i64 ((h.cus.length : Int)) else undef
   | 93 => zz = if C90 = true then .bool B93 else undef
   | 94 => zz = .bool B94
   | _ => True) := ⟨_, rfl⟩
 refine Rg.region_pure2 F [19, 20, 21, 22, 23, 24, 25, 26, 27, 28, 29, 30, 31, 32, 33, 34, 35, 36, 37, 38, 39, 40, 41, 42, 43, 44, 45, 46, 47, 48, 49, 50, 51, 52, 53, 54, 55, 56, 57, 58, 59, 60, 61, 62, 63, 64, 65, 66, 67, 68, 69, 70, 71, 72, 73, 74, 75, 76, 77, 78, 79, 80, 81, 82, 83, 84, 85, 86, 87, 88, 89, 90, 91, 92, 93, 94] (fun u => ⟨#[.agg #[.int .u8 h.hint, .int .i32 h.schema, .int .u64 h.thr, .int .u64 h.sum, .int .u64 h.zc, .int .u64 h.cnt, .slice a1 h.pos.length c1, .slice a2 h.neg.length c2, .slice a3 h.ups.length c3, .slice a4 h.downs.length c4, .slice a5 h.fups.length c5, .slice a6 h.fdowns.length c6, .slice a7 h.cus.length c7], .bool fl, .pointer (some ⟨w.heap.size, 0, none⟩), undef, .bool false, .bool cus, undef, undef, undef, undef, undef, undef, undef, undef, undef, undef, .pointer (some ⟨w.heap.size, 1, none⟩), .int .i32 h.schema, .bool cus, u 19, u 20, u 21, u 22, u 23, u 24, u 25, u 26, u 27, u 28, u 29, u 30, u 31, u 32, u 33, u 34, u 35, u 36, u 37, u 38, u 39, u 40, u 41, u 42, u 43, u 44, u 45, u 46, u 47, u 48, u 49, u 50, u 51, u 52, u 53, u 54, u 55, u 56, u 57, u 58, u 59, u 60, u 61, u 62, u 63, u 64, u 65, u 66, u 67, u 68, u 69, u 70, u 71, u 72, u 73, u 74, u 75, u 76, u 77, u 78, u 79, u 80, u 81, u 82, u 83, u 84, u 85, u 86, u 87, u 88, u 89, u 90, u 91, u 92, u 93, u 94, undef, undef, undef, undef, undef, undef, undef, undef, undef, undef, undef, undef, undef, undef, undef, undef, undef, undef, undef, undef, undef, undef, undef, undef, undef, undef, undef, undef, undef, undef, undef, undef, undef, undef, undef, undef, undef, undef, undef, undef, undef, undef, undef, undef, undef, undef, undef, undef, undef, undef, undef, undef, undef, undef, undef, undef, undef, undef, undef, undef, undef, undef, undef, undef, undef, undef, undef, undef, undef, undef, undef, undef, undef, undef, undef, undef, undef, undef, undef, undef, undef, undef, undef, undef, undef, undef, undef, undef, undef, undef, undef, undef, undef, undef, undef, undef, undef, undef, undef, undef, undef, undef, undef, undef, undef, undef, undef, undef, undef, undef, undef, undef, undef, undef, undef, undef, undef, undef, undef, undef, undef, undef, undef, undef, undef, undef, undef, undef, undef, undef, undef, undef, undef, undef, undef, undef, undef, undef, undef, undef, undef, undef, undef, undef, undef, undef, undef, undef, undef, undef, undef, undef, undef, undef, undef, undef, undef, undef, undef, undef, undef, undef, undef, undef, undef, undef, undef, undef, undef, undef, undef, undef, undef, undef, undef, undef, undef, undef, undef, undef, undef, undef, undef, undef, undef, undef, undef, undef, undef, undef, undef, undef, undef, undef, undef, undef, undef, undef, undef, undef, undef, undef, undef, undef, undef, undef, undef, undef, undef, undef, undef, undef, undef, undef, undef, undef, undef, undef, undef, undef, undef, undef, undef, undef, undef, undef, undef, undef, undef, undef, undef, undef, undef, undef, undef, undef, undef, undef, undef, undef, undef, undef, undef, undef, undef, undef, undef, undef, undef, undef, undef, undef, undef, undef, undef, undef, undef, undef, undef, undef, undef, undef, undef, undef, undef, undef, undef, undef, undef, undef, undef], []⟩) (fun _ => by as_aux_lemma => kernel_rfl) (by as_aux_lemma => kernel_rfl) (by as_aux_lemma => kernel_rfl) (by as_aux_lemma => kernel_rfl) (by as_aux_lemma => kernel_rfl) ?st ?_
 case st =>
  refine ⟨?_, ?_, ?_, ?_, ?_, ?_, ?_, ?_, ?_, ?_, ?_, ?_, ?_, ?_, ?_, ?_, ?_, ?_, ?_, ?_, ?_, ?_, ?_, ?_, ?_, ?_, ?_, ?_, ?_, ?_, ?_, ?_, ?_, ?_, ?_, ?_, ?_, ?_, ?_, ?_, ?_, ?_, ?_, ?_, ?_, ?_, ?_, ?_, ?_, ?_, ?_, ?_, ?_, ?_, ?_, ?_, ?_, ?_, ?_, ?_, ?_, ?_, ?_, ?_, ?_, ?_, ?_, ?_, ?_, ?_, ?_, ?_, ?_, ?_, ?_, ?_, trivial⟩
  skip
  ·as_aux_lemma =>
   refine Rg.stepR_free (.pointer (some ⟨w.heap.size, 0, none⟩)) (by rfl) (fun a hr => ?_) (by rw [hF]; rfl)
   have z2 := Rg.read_old hr 2 (by kernel_rfl) (by kernel_rfl); have r2 : a.eval (.tmp 2) = .pointer (some ⟨w.heap.size, 0, none⟩) := z2; clear z2; generalize a.eval = ρ at *; clear hr; go_simp
  ·as_aux_lemma =>
   refine Rg.stepR_free (.int .u8 (h.hint)) (by rfl) (fun a hr => ?_) (by rw [hF]; rfl)
   have z19 := Rg.read_new hr 19 (by kernel_rfl) (by kernel_rfl); rw [hF] at z19; have r19 : a.eval (.tmp 19) = .pointer (some ⟨w.heap.size, 0, none⟩) := z19; clear z19; generalize a.eval = ρ at *; clear hr; go_simp
  ·as_aux_lemma =>
   refine Rg.stepR_free (.bool B21) (by rfl) (fun a hr => ?_) (by rw [hF]; rfl)
   have z20 := Rg.read_new hr 20 (by kernel_rfl) (by kernel_rfl); rw [hF] at z20; have r20 : a.eval (.tmp 20) = .int .u8 (h.hint) := z20; clear z20; have rc : ∀ v, a.eval (.const v) = v := fun _ => rfl; rw [show B21 = _ from hB21.out]; generalize a.eval = ρ at *; clear hr; go_simp
  ·as_aux_lemma =>
   refine Rg.stepR_free (.bool B21) (by rfl) (fun a hr => ?_) (by rw [hF]; rfl)
   have z21 := Rg.read_new hr 21 (by kernel_rfl) (by kernel_rfl); rw [hF] at z21; have r21 : a.eval (.tmp 21) = .bool B21 := z21; clear z21; generalize a.eval = ρ at *; clear hr; go_simp
  ·as_aux_lemma =>
   have hC := hC23.out
   refine Rg.stepR_guarded (.bool cus) true B21 3 false 22 (by rfl) (by kernel_rfl) (by kernel_rfl) (by kernel_rfl) (fun x hx => by rw [hF] at hx; exact hx) (fun hc a hr => ?_) (fun hc => ?_) (fun hc => ?_)
   ·have z5 := Rg.read_old hr 5 (by kernel_rfl) (by kernel_rfl); have r5 : a.eval (.tmp 5) = .bool cus := z5; clear z5; rw [← hC] at hc; clear hC; generalize a.eval = ρ at *; clear hr; go_simp
   ·rw [← hC] at hc; rw [hF]; show _ = ite _ _ _; rw [if_pos hc]
   ·rw [← hC] at hc; rw [hF]; show _ = ite _ _ _; rw [if_neg (by rw [hc]; decide)]
  ·as_aux_lemma =>
   have hC := hC23.out
   refine Rg.stepR_guarded (.bool B24) true B21 3 false 22 (by rfl) (by kernel_rfl) (by kernel_rfl) (by kernel_rfl) (fun x hx => by rw [hF] at hx; exact hx) (fun hc a hr => ?_) (fun hc => ?_) (fun hc => ?_)
   ·have z23 := Rg.read_new hr 23 (by kernel_rfl) (by kernel_rfl); rw [hF] at z23; have r23 : a.eval (.tmp 23) = if C23 = true then .bool cus else undef := z23; clear z23; rw [← hC] at hc; clear hC; rw [if_pos hc] at r23; rw [show B24 = _ from hB24.out]; generalize a.eval = ρ at *; clear hr; go_simp
   ·rw [← hC] at hc; rw [hF]; show _ = ite _ _ _; rw [if_pos hc]
   ·rw [← hC] at hc; rw [hF]; show _ = ite _ _ _; rw [if_neg (by rw [hc]; decide)]
  ·as_aux_lemma =>
   have hC := hC23.out
   refine Rg.stepR_guarded (.bool B24) true B21 3 false 22 (by rfl) (by kernel_rfl) (by kernel_rfl) (by kernel_rfl) (fun x hx => by rw [hF] at hx; exact hx) (fun hc a hr => ?_) (fun hc => ?_) (fun hc => ?_)
   ·have z24 := Rg.read_new hr 24 (by kernel_rfl) (by kernel_rfl); rw [hF] at z24; have r24 : a.eval (.tmp 24) = if C23 = true then .bool B24 else undef := z24; clear z24; rw [← hC] at hc; clear hC; rw [if_pos hc] at r24; generalize a.eval = ρ at *; clear hr; go_simp
   ·rw [← hC] at hc; rw [hF]; show _ = ite _ _ _; rw [if_pos hc]
   ·rw [← hC] at hc; rw [hF]; show _ = ite _ _ _; rw [if_neg (by rw [hc]; decide)]
  ·as_aux_lemma =>
   have hC := hC26.out
   refine Rg.stepR_guarded (.pointer (some ⟨w.heap.size, 1, none⟩)) C23 B24 6 true 25 (by rfl) (by kernel_rfl) (by kernel_rfl) (by kernel_rfl) (fun x hx => by rw [hF] at hx; exact hx) (fun hc a hr => ?_) (fun hc => ?_) (fun hc => ?_)
   ·have z2 := Rg.read_old hr 2 (by kernel_rfl) (by kernel_rfl); have r2 : a.eval (.tmp 2) = .pointer (some ⟨w.heap.size, 0, none⟩) := z2; clear z2; rw [← hC] at hc; clear hC; generalize a.eval = ρ at *; clear hr; go_simp
   ·rw [← hC] at hc; rw [hF]; show _ = ite _ _ _; rw [if_pos hc]
   ·rw [← hC] at hc; rw [hF]; show _ = ite _ _ _; rw [if_neg (by rw [hc]; decide)]
  ·as_aux_lemma =>
   have hC := hC26.out
   refine Rg.stepR_guarded (.int .i32 (h.schema)) C23 B24 6 true 25 (by rfl) (by kernel_rfl) (by kernel_rfl) (by kernel_rfl) (fun x hx => by rw [hF] at hx; exact hx) (fun hc a hr => ?_) (fun hc => ?_) (fun hc => ?_)
   ·have z26 := Rg.read_new hr 26 (by kernel_rfl) (by kernel_rfl); rw [hF] at z26; have r26 : a.eval (.tmp 26) = if C26 = true then .pointer (some ⟨w.heap.size, 1, none⟩) else undef := z26; clear z26; rw [← hC] at hc; clear hC; rw [if_pos hc] at r26; generalize a.eval = ρ at *; clear hr; go_simp
   ·rw [← hC] at hc; rw [hF]; show _ = ite _ _ _; rw [if_pos hc]
   ·rw [← hC] at hc; rw [hF]; show _ = ite _ _ _; rw [if_neg (by rw [hc]; decide)]
  ·as_aux_lemma =>
   have hC := hC26.out
   refine Rg.stepR_guarded (.bool B28) C23 B24 6 true 25 (by rfl) (by kernel_rfl) (by kernel_rfl) (by kernel_rfl) (fun x hx => by rw [hF] at hx; exact hx) (fun hc a hr => ?_) (fun hc => ?_) (fun hc => ?_)
   ·have z27 := Rg.read_new hr 27 (by kernel_rfl) (by kernel_rfl); rw [hF] at z27; have r27 : a.eval (.tmp 27) = if C26 = true then .int .i32 (h.schema) else undef := z27; clear z27; rw [← hC] at hc; clear hC; rw [if_pos hc] at r27; have rc : ∀ v, a.eval (.const v) = v := fun _ => rfl; rw [show B28 = _ from hB28.out]; generalize a.eval = ρ at *; clear hr; go_simp
   ·rw [← hC] at hc; rw [hF]; show _ = ite _ _ _; rw [if_pos hc]
   ·rw [← hC] at hc; rw [hF]; show _ = ite _ _ _; rw [if_neg (by rw [hc]; decide)]
  ·as_aux_lemma =>
   have hC := hC26.out
   refine Rg.stepR_guarded (.bool B28) C23 B24 6 true 25 (by rfl) (by kernel_rfl) (by kernel_rfl) (by kernel_rfl) (fun x hx => by rw [hF] at hx; exact hx) (fun hc a hr => ?_) (fun hc => ?_) (fun hc => ?_)
   ·have z28 := Rg.read_new hr 28 (by kernel_rfl) (by kernel_rfl); rw [hF] at z28; have r28 : a.eval (.tmp 28) = if C26 = true then .bool B28 else undef := z28; clear z28; rw [← hC] at hc; clear hC; rw [if_pos hc] at r28; generalize a.eval = ρ at *; clear hr; go_simp
   ·rw [← hC] at hc; rw [hF]; show _ = ite _ _ _; rw [if_pos hc]
   ·rw [← hC] at hc; rw [hF]; show _ = ite _ _ _; rw [if_neg (by rw [hc]; decide)]
  ·as_aux_lemma =>
   have hC := hC30.out
   refine Rg.stepR_guarded (.pointer (some ⟨w.heap.size, 1, none⟩)) C26 B28 10 false 29 (by rfl) (by kernel_rfl) (by kernel_rfl) (by kernel_rfl) (fun x hx => by rw [hF] at hx; exact hx) (fun hc a hr => ?_) (fun hc => ?_) (fun hc => ?_)
   ·have z2 := Rg.read_old hr 2 (by kernel_rfl) (by kernel_rfl); have r2 : a.eval (.tmp 2) = .pointer (some ⟨w.heap.size, 0, none⟩) := z2; clear z2; rw [← hC] at hc; clear hC; generalize a.eval = ρ at *; clear hr; go_simp
   ·rw [← hC] at hc; rw [hF]; show _ = ite _ _ _; rw [if_pos hc]
   ·rw [← hC] at hc; rw [hF]; show _ = ite _ _ _; rw [if_neg (by rw [hc]; decide)]
  ·as_aux_lemma =>
   have hC := hC30.out
   refine Rg.stepR_guarded (.int .i32 (h.schema)) C26 B28 10 false 29 (by rfl) (by kernel_rfl) (by kernel_rfl) (by kernel_rfl) (fun x hx => by rw [hF] at hx; exact hx) (fun hc a hr => ?_) (fun hc => ?_) (fun hc => ?_)
   ·have z30 := Rg.read_new hr 30 (by kernel_rfl) (by kernel_rfl); rw [hF] at z30; have r30 : a.eval (.tmp 30) = if C30 = true then .pointer (some ⟨w.heap.size, 1, none⟩) else undef := z30; clear z30; rw [← hC] at hc; clear hC; rw [if_pos hc] at r30; generalize a.eval = ρ at *; clear hr; go_simp
   ·rw [← hC] at hc; rw [hF]; show _ = ite _ _ _; rw [if_pos hc]
   ·rw [← hC] at hc; rw [hF]; show _ = ite _ _ _; rw [if_neg (by rw [hc]; decide)]
  ·as_aux_lemma =>
   have hC := hC30.out
   refine Rg.stepR_guarded (.bool B32) C26 B28 10 false 29 (by rfl) (by kernel_rfl) (by kernel_rfl) (by kernel_rfl) (fun x hx => by rw [hF] at hx; exact hx) (fun hc a hr => ?_) (fun hc => ?_) (fun hc => ?_)
   ·have z31 := Rg.read_new hr 31 (by kernel_rfl) (by kernel_rfl); rw [hF] at z31; have r31 : a.eval (.tmp 31) = if C30 = true then .int .i32 (h.schema) else undef := z31; clear z31; rw [← hC] at hc; clear hC; rw [if_pos hc] at r31; have rc : ∀ v, a.eval (.const v) = v := fun _ => rfl; rw [show B32 = _ from hB32.out]; generalize a.eval = ρ at *; clear hr; go_simp
   ·rw [← hC] at hc; rw [hF]; show _ = ite _ _ _; rw [if_pos hc]
   ·rw [← hC] at hc; rw [hF]; show _ = ite _ _ _; rw [if_neg (by rw [hc]; decide)]
  ·as_aux_lemma =>
   have hC := hC26.out
   refine Rg.stepR_guarded (.bool B33) C23 B24 6 true 25 (by rfl) (by kernel_rfl) (by kernel_rfl) (by kernel_rfl) (fun x hx => by rw [hF] at hx; exact hx) (fun hc a hr => ?_) (fun hc => ?_) (fun hc => ?_)
   ·have z29 := Rg.read_new hr 29 (by kernel_rfl) (by kernel_rfl); rw [hF] at z29; have r29 : a.eval (.tmp 29) = if C26 = true then .bool B28 else undef := z29; clear z29; have z32 := Rg.read_new hr 32 (by kernel_rfl) (by kernel_rfl); rw [hF] at z32; have r32 : a.eval (.tmp 32) = if C30 = true then .bool B32 else undef := z32; clear z32; rw [← hC] at hc; clear hC; rw [if_pos hc] at r29; have rc : ∀ v, a.eval (.const v) = v := fun _ => rfl; rw [show B33 = _ from hB33.out]; have e32 := hC30.out; rw [hc] at e32; clear hr; generalize a.eval = ρ at *; cases B28 <;> simp [e32] at r32 <;> (simp [r29, r32, rc, go_sem, execOp])
   ·rw [← hC] at hc; rw [hF]; show _ = ite _ _ _; rw [if_pos hc]
   ·rw [← hC] at hc; rw [hF]; show _ = ite _ _ _; rw [if_neg (by rw [hc]; decide)]
  ·as_aux_lemma =>
   have hC := hC26.out
   refine Rg.stepR_guarded (.bool B33) C23 B24 6 true 25 (by rfl) (by kernel_rfl) (by kernel_rfl) (by kernel_rfl) (fun x hx => by rw [hF] at hx; exact hx) (fun hc a hr => ?_) (fun hc => ?_) (fun hc => ?_)
   ·have z33 := Rg.read_new hr 33 (by kernel_rfl) (by kernel_rfl); rw [hF] at z33; have r33 : a.eval (.tmp 33) = if C26 = true then .bool B33 else undef := z33; clear z33; rw [← hC] at hc; clear hC; rw [if_pos hc] at r33; generalize a.eval = ρ at *; clear hr; go_simp
   ·rw [← hC] at hc; rw [hF]; show _ = ite _ _ _; rw [if_pos hc]
   ·rw [← hC] at hc; rw [hF]; show _ = ite _ _ _; rw [if_neg (by rw [hc]; decide)]
  ·as_aux_lemma =>
   have hC := hC35.out
   refine Rg.stepR_guarded (.pointer (some ⟨w.heap.size, 12, none⟩)) C26 B33 15 false 34 (by rfl) (by kernel_rfl) (by kernel_rfl) (by kernel_rfl) (fun x hx => by rw [hF] at hx; exact hx) (fun hc a hr => ?_) (fun hc => ?_) (fun hc => ?_)
   ·have z2 := Rg.read_old hr 2 (by kernel_rfl) (by kernel_rfl); have r2 : a.eval (.tmp 2) = .pointer (some ⟨w.heap.size, 0, none⟩) := z2; clear z2; rw [← hC] at hc; clear hC; generalize a.eval = ρ at *; clear hr; go_simp
   ·rw [← hC] at hc; rw [hF]; show _ = ite _ _ _; rw [if_pos hc]
   ·rw [← hC] at hc; rw [hF]; show _ = ite _ _ _; rw [if_neg (by rw [hc]; decide)]
  ·as_aux_lemma =>
   have hC := hC35.out
   refine Rg.stepR_guarded (.slice a7 h.cus.length c7) C26 B33 15 false 34 (by rfl) (by kernel_rfl) (by kernel_rfl) (by kernel_rfl) (fun x hx => by rw [hF] at hx; exact hx) (fun hc a hr => ?_) (fun hc => ?_) (fun hc => ?_)
   ·have z35 := Rg.read_new hr 35 (by kernel_rfl) (by kernel_rfl); rw [hF] at z35; have r35 : a.eval (.tmp 35) = if C35 = true then .pointer (some ⟨w.heap.size, 12, none⟩) else undef := z35; clear z35; rw [← hC] at hc; clear hC; rw [if_pos hc] at r35; generalize a.eval = ρ at *; clear hr; go_simp
   ·rw [← hC] at hc; rw [hF]; show _ = ite _ _ _; rw [if_pos hc]
   ·rw [← hC] at hc; rw [hF]; show _ = ite _ _ _; rw [if_neg (by rw [hc]; decide)]
  ·as_aux_lemma =>
   have hC := hC35.out
   refine Rg.stepR_guarded (.int .i64 ((h.cus.length : Int))) C26 B33 15 false 34 (by rfl) (by kernel_rfl) (by kernel_rfl) (by kernel_rfl) (fun x hx => by rw [hF] at hx; exact hx) (fun hc a hr => ?_) (fun hc => ?_) (fun hc => ?_)
   ·have z36 := Rg.read_new hr 36 (by kernel_rfl) (by kernel_rfl); rw [hF] at z36; have r36 : a.eval (.tmp 36) = if C35 = true then .slice a7 h.cus.length c7 else undef := z36; clear z36; rw [← hC] at hc; clear hC; rw [if_pos hc] at r36; generalize a.eval = ρ at *; clear hr; go_simp
   ·rw [← hC] at hc; rw [hF]; show _ = ite _ _ _; rw [if_pos hc]
   ·rw [← hC] at hc; rw [hF]; show _ = ite _ _ _; rw [if_neg (by rw [hc]; decide)]
  ·as_aux_lemma =>
   have hC := hC35.out
   refine Rg.stepR_guarded (.bool B38) C26 B33 15 false 34 (by rfl) (by kernel_rfl) (by kernel_rfl) (by kernel_rfl) (fun x hx => by rw [hF] at hx; exact hx) (fun hc a hr => ?_) (fun hc => ?_) (fun hc => ?_)
   ·have z37 := Rg.read_new hr 37 (by kernel_rfl) (by kernel_rfl); rw [hF] at z37; have r37 : a.eval (.tmp 37) = if C35 = true then .int .i64 ((h.cus.length : Int)) else undef := z37; clear z37; rw [← hC] at hc; clear hC; rw [if_pos hc] at r37; have rc : ∀ v, a.eval (.const v) = v := fun _ => rfl; rw [show B38 = _ from hB38.out]; generalize a.eval = ρ at *; clear hr; go_simp
   ·rw [← hC] at hc; rw [hF]; show _ = ite _ _ _; rw [if_pos hc]
   ·rw [← hC] at hc; rw [hF]; show _ = ite _ _ _; rw [if_neg (by rw [hc]; decide)]
  ·as_aux_lemma =>
   have hC := hC26.out
   refine Rg.stepR_guarded (.bool B39) C23 B24 6 true 25 (by rfl) (by kernel_rfl) (by kernel_rfl) (by kernel_rfl) (fun x hx => by rw [hF] at hx; exact hx) (fun hc a hr => ?_) (fun hc => ?_) (fun hc => ?_)
   ·have z34 := Rg.read_new hr 34 (by kernel_rfl) (by kernel_rfl); rw [hF] at z34; have r34 : a.eval (.tmp 34) = if C26 = true then .bool B33 else undef := z34; clear z34; have z38 := Rg.read_new hr 38 (by kernel_rfl) (by kernel_rfl); rw [hF] at z38; have r38 : a.eval (.tmp 38) = if C35 = true then .bool B38 else undef := z38; clear z38; rw [← hC] at hc; clear hC; rw [if_pos hc] at r34; have rc : ∀ v, a.eval (.const v) = v := fun _ => rfl; rw [show B39 = _ from hB39.out]; have e38 := hC35.out; rw [hc] at e38; clear hr; generalize a.eval = ρ at *; cases B33 <;> simp [e38] at r38 <;> (simp [r34, r38, rc, go_sem, execOp])
   ·rw [← hC] at hc; rw [hF]; show _ = ite _ _ _; rw [if_pos hc]
   ·rw [← hC] at hc; rw [hF]; show _ = ite _ _ _; rw [if_neg (by rw [hc]; decide)]
  ·as_aux_lemma =>
   have hC := hC23.out
   refine Rg.stepR_guarded (.bool B40) true B21 3 false 22 (by rfl) (by kernel_rfl) (by kernel_rfl) (by kernel_rfl) (fun x hx => by rw [hF] at hx; exact hx) (fun hc a hr => ?_) (fun hc => ?_) (fun hc => ?_)
   ·have z25 := Rg.read_new hr 25 (by kernel_rfl) (by kernel_rfl); rw [hF] at z25; have r25 : a.eval (.tmp 25) = if C23 = true then .bool B24 else undef := z25; clear z25; have z39 := Rg.read_new hr 39 (by kernel_rfl) (by kernel_rfl); rw [hF] at z39; have r39 : a.eval (.tmp 39) = if C26 = true then .bool B39 else undef := z39; clear z39; rw [← hC] at hc; clear hC; rw [if_pos hc] at r25; have rc : ∀ v, a.eval (.const v) = v := fun _ => rfl; rw [show B40 = _ from hB40.out]; have e39 := hC26.out; rw [hc] at e39; clear hr; generalize a.eval = ρ at *; cases B24 <;> simp [e39] at r39 <;> (simp [r25, r39, rc, go_sem, execOp])
   ·rw [← hC] at hc; rw [hF]; show _ = ite _ _ _; rw [if_pos hc]
   ·rw [← hC] at hc; rw [hF]; show _ = ite _ _ _; rw [if_neg (by rw [hc]; decide)]
  ·as_aux_lemma =>
   refine Rg.stepR_free (.bool B41) (by rfl) (fun a hr => ?_) (by rw [hF]; rfl)
   have z22 := Rg.read_new hr 22 (by kernel_rfl) (by kernel_rfl); rw [hF] at z22; have r22 : a.eval (.tmp 22) = .bool B21 := z22; clear z22; have z40 := Rg.read_new hr 40 (by kernel_rfl) (by kernel_rfl); rw [hF] at z40; have r40 : a.eval (.tmp 40) = if C23 = true then .bool B40 else undef := z40; clear z40; have rc : ∀ v, a.eval (.const v) = v := fun _ => rfl; rw [show B41 = _ from hB41.out]; have e40 := hC23.out; clear hr; generalize a.eval = ρ at *; cases B21 <;> simp [e40] at r40 <;> (simp [r22, r40, rc, go_sem, execOp])
  ·as_aux_lemma =>
   refine Rg.stepR_free (.bool B41) (by rfl) (fun a hr => ?_) (by rw [hF]; rfl)
   have z41 := Rg.read_new hr 41 (by kernel_rfl) (by kernel_rfl); rw [hF] at z41; have r41 : a.eval (.tmp 41) = .bool B41 := z41; clear z41; generalize a.eval = ρ at *; clear hr; go_simp
  ·as_aux_lemma =>
   have hC := hC43.out
   refine Rg.stepR_guarded (.pointer (some ⟨w.heap.size, 2, none⟩)) true B41 23 false 42 (by rfl) (by kernel_rfl) (by kernel_rfl) (by kernel_rfl) (fun x hx => by rw [hF] at hx; exact hx) (fun hc a hr => ?_) (fun hc => ?_) (fun hc => ?_)
   ·have z2 := Rg.read_old hr 2 (by kernel_rfl) (by kernel_rfl); have r2 : a.eval (.tmp 2) = .pointer (some ⟨w.heap.size, 0, none⟩) := z2; clear z2; rw [← hC] at hc; clear hC; generalize a.eval = ρ at *; clear hr; go_simp
   ·rw [← hC] at hc; rw [hF]; show _ = ite _ _ _; rw [if_pos hc]
   ·rw [← hC] at hc; rw [hF]; show _ = ite _ _ _; rw [if_neg (by rw [hc]; decide)]
  ·as_aux_lemma =>
   have hC := hC43.out
   refine Rg.stepR_guarded (.int .u64 ((h.thr : Int))) true B41 23 false 42 (by rfl) (by kernel_rfl) (by kernel_rfl) (by kernel_rfl) (fun x hx => by rw [hF] at hx; exact hx) (fun hc a hr => ?_) (fun hc => ?_) (fun hc => ?_)
   ·have z43 := Rg.read_new hr 43 (by kernel_rfl) (by kernel_rfl); rw [hF] at z43; have r43 : a.eval (.tmp 43) = if C43 = true then .pointer (some ⟨w.heap.size, 2, none⟩) else undef := z43; clear z43; rw [← hC] at hc; clear hC; rw [if_pos hc] at r43; generalize a.eval = ρ at *; clear hr; go_simp
   ·rw [← hC] at hc; rw [hF]; show _ = ite _ _ _; rw [if_pos hc]
   ·rw [← hC] at hc; rw [hF]; show _ = ite _ _ _; rw [if_neg (by rw [hc]; decide)]
  ·as_aux_lemma =>
   have hC := hC43.out
   refine Rg.stepR_guarded_wp (.bool B45) true B41 23 false 42 (by rfl) (by kernel_rfl) (by kernel_rfl) (by kernel_rfl) (fun x hx => by rw [hF] at hx; exact hx) (fun hc a hr => ?_) (fun hc => ?_) (fun hc => ?_)
   ·have z44 := Rg.read_new hr 44 (by kernel_rfl) (by kernel_rfl); rw [hF] at z44; have r44 : a.eval (.tmp 44) = if C43 = true then .int .u64 ((h.thr : Int)) else undef := z44; clear z44; rw [← hC] at hc; clear hC; rw [if_pos hc] at r44; rw [show B45 = _ from hB45.out]; intro K Q hK; have rf : a.eval (.func 35) = .func (.func 35) #[] #[] := rfl; unfold Oper.wp; generalize hx : a.eval = ρ at *; clear hr; go_simp; refine (plain_any _ _).mono ?_; rintro e w' ⟨rfl, rfl⟩; exact hK
   ·rw [← hC] at hc; rw [hF]; show _ = ite _ _ _; rw [if_pos hc]
   ·rw [← hC] at hc; rw [hF]; show _ = ite _ _ _; rw [if_neg (by rw [hc]; decide)]
  ·as_aux_lemma =>
   have hC := hC43.out
   refine Rg.stepR_guarded (.bool B46) true B41 23 false 42 (by rfl) (by kernel_rfl) (by kernel_rfl) (by kernel_rfl) (fun x hx => by rw [hF] at hx; exact hx) (fun hc a hr => ?_) (fun hc => ?_) (fun hc => ?_)
   ·have z45 := Rg.read_new hr 45 (by kernel_rfl) (by kernel_rfl); rw [hF] at z45; have r45 : a.eval (.tmp 45) = if C43 = true then .bool B45 else undef := z45; clear z45; rw [← hC] at hc; clear hC; rw [if_pos hc] at r45; rw [show B46 = _ from hB46.out]; generalize a.eval = ρ at *; clear hr; go_simp
   ·rw [← hC] at hc; rw [hF]; show _ = ite _ _ _; rw [if_pos hc]
   ·rw [← hC] at hc; rw [hF]; show _ = ite _ _ _; rw [if_neg (by rw [hc]; decide)]
  ·as_aux_lemma =>
   refine Rg.stepR_free (.bool B47) (by rfl) (fun a hr => ?_) (by rw [hF]; rfl)
   have z42 := Rg.read_new hr 42 (by kernel_rfl) (by kernel_rfl); rw [hF] at z42; have r42 : a.eval (.tmp 42) = .bool B41 := z42; clear z42; have z46 := Rg.read_new hr 46 (by kernel_rfl) (by kernel_rfl); rw [hF] at z46; have r46 : a.eval (.tmp 46) = if C43 = true then .bool B46 else undef := z46; clear z46; have rc : ∀ v, a.eval (.const v) = v := fun _ => rfl; rw [show B47 = _ from hB47.out]; have e46 := hC43.out; clear hr; generalize a.eval = ρ at *; cases B41 <;> simp [e46] at r46 <;> (simp [r42, r46, rc, go_sem, execOp])
  ·as_aux_lemma =>
   refine Rg.stepR_free (.bool B47) (by rfl) (fun a hr => ?_) (by rw [hF]; rfl)
   have z47 := Rg.read_new hr 47 (by kernel_rfl) (by kernel_rfl); rw [hF] at z47; have r47 : a.eval (.tmp 47) = .bool B47 := z47; clear z47; generalize a.eval = ρ at *; clear hr; go_simp
  ·as_aux_lemma =>
   have hC := hC49.out
   refine Rg.stepR_guarded (.pointer (some ⟨w.heap.size, 3, none⟩)) true B47 29 false 48 (by rfl) (by kernel_rfl) (by kernel_rfl) (by kernel_rfl) (fun x hx => by rw [hF] at hx; exact hx) (fun hc a hr => ?_) (fun hc => ?_) (fun hc => ?_)
   ·have z2 := Rg.read_old hr 2 (by kernel_rfl) (by kernel_rfl); have r2 : a.eval (.tmp 2) = .pointer (some ⟨w.heap.size, 0, none⟩) := z2; clear z2; rw [← hC] at hc; clear hC; generalize a.eval = ρ at *; clear hr; go_simp
   ·rw [← hC] at hc; rw [hF]; show _ = ite _ _ _; rw [if_pos hc]
   ·rw [← hC] at hc; rw [hF]; show _ = ite _ _ _; rw [if_neg (by rw [hc]; decide)]
  ·as_aux_lemma =>
   have hC := hC49.out
   refine Rg.stepR_guarded (.int .u64 ((h.sum : Int))) true B47 29 false 48 (by rfl) (by kernel_rfl) (by kernel_rfl) (by kernel_rfl) (fun x hx => by rw [hF] at hx; exact hx) (fun hc a hr => ?_) (fun hc => ?_) (fun hc => ?_)
   ·have z49 := Rg.read_new hr 49 (by kernel_rfl) (by kernel_rfl); rw [hF] at z49; have r49 : a.eval (.tmp 49) = if C49 = true then .pointer (some ⟨w.heap.size, 3, none⟩) else undef := z49; clear z49; rw [← hC] at hc; clear hC; rw [if_pos hc] at r49; generalize a.eval = ρ at *; clear hr; go_simp
   ·rw [← hC] at hc; rw [hF]; show _ = ite _ _ _; rw [if_pos hc]
   ·rw [← hC] at hc; rw [hF]; show _ = ite _ _ _; rw [if_neg (by rw [hc]; decide)]
  ·as_aux_lemma =>
   have hC := hC49.out
   refine Rg.stepR_guarded (.bool B51) true B47 29 false 48 (by rfl) (by kernel_rfl) (by kernel_rfl) (by kernel_rfl) (fun x hx => by rw [hF] at hx; exact hx) (fun hc a hr => ?_) (fun hc => ?_) (fun hc => ?_)
   ·have z50 := Rg.read_new hr 50 (by kernel_rfl) (by kernel_rfl); rw [hF] at z50; have r50 : a.eval (.tmp 50) = if C49 = true then .int .u64 ((h.sum : Int)) else undef := z50; clear z50; rw [← hC] at hc; clear hC; rw [if_pos hc] at r50; have rc : ∀ v, a.eval (.const v) = v := fun _ => rfl; rw [show B51 = _ from hB51.out]; generalize a.eval = ρ at *; clear hr; go_simp
   ·rw [← hC] at hc; rw [hF]; show _ = ite _ _ _; rw [if_pos hc]
   ·rw [← hC] at hc; rw [hF]; show _ = ite _ _ _; rw [if_neg (by rw [hc]; decide)]
  ·as_aux_lemma =>
   refine Rg.stepR_free (.bool B52) (by rfl) (fun a hr => ?_) (by rw [hF]; rfl)
   have z48 := Rg.read_new hr 48 (by kernel_rfl) (by kernel_rfl); rw [hF] at z48; have r48 : a.eval (.tmp 48) = .bool B47 := z48; clear z48; have z51 := Rg.read_new hr 51 (by kernel_rfl) (by kernel_rfl); rw [hF] at z51; have r51 : a.eval (.tmp 51) = if C49 = true then .bool B51 else undef := z51; clear z51; have rc : ∀ v, a.eval (.const v) = v := fun _ => rfl; rw [show B52 = _ from hB52.out]; have e51 := hC49.out; clear hr; generalize a.eval = ρ at *; cases B47 <;> simp [e51] at r51 <;> (simp [r48, r51, rc, go_sem, execOp])
  ·as_aux_lemma =>
   refine Rg.stepR_free (.bool B52) (by rfl) (fun a hr => ?_) (by rw [hF]; rfl)
   have z52 := Rg.read_new hr 52 (by kernel_rfl) (by kernel_rfl); rw [hF] at z52; have r52 : a.eval (.tmp 52) = .bool B52 := z52; clear z52; generalize a.eval = ρ at *; clear hr; go_simp
  ·as_aux_lemma =>
   have hC := hC54.out
   refine Rg.stepR_guarded (.pointer (some ⟨w.heap.size, 8, none⟩)) true B52 34 false 53 (by rfl) (by kernel_rfl) (by kernel_rfl) (by kernel_rfl) (fun x hx => by rw [hF] at hx; exact hx) (fun hc a hr => ?_) (fun hc => ?_) (fun hc => ?_)
   ·have z2 := Rg.read_old hr 2 (by kernel_rfl) (by kernel_rfl); have r2 : a.eval (.tmp 2) = .pointer (some ⟨w.heap.size, 0, none⟩) := z2; clear z2; rw [← hC] at hc; clear hC; generalize a.eval = ρ at *; clear hr; go_simp
   ·rw [← hC] at hc; rw [hF]; show _ = ite _ _ _; rw [if_pos hc]
   ·rw [← hC] at hc; rw [hF]; show _ = ite _ _ _; rw [if_neg (by rw [hc]; decide)]
  ·as_aux_lemma =>
   have hC := hC54.out
   refine Rg.stepR_guarded (.slice a3 h.ups.length c3) true B52 34 false 53 (by rfl) (by kernel_rfl) (by kernel_rfl) (by kernel_rfl) (fun x hx => by rw [hF] at hx; exact hx) (fun hc a hr => ?_) (fun hc => ?_) (fun hc => ?_)
   ·have z54 := Rg.read_new hr 54 (by kernel_rfl) (by kernel_rfl); rw [hF] at z54; have r54 : a.eval (.tmp 54) = if C54 = true then .pointer (some ⟨w.heap.size, 8, none⟩) else undef := z54; clear z54; rw [← hC] at hc; clear hC; rw [if_pos hc] at r54; generalize a.eval = ρ at *; clear hr; go_simp
   ·rw [← hC] at hc; rw [hF]; show _ = ite _ _ _; rw [if_pos hc]
   ·rw [← hC] at hc; rw [hF]; show _ = ite _ _ _; rw [if_neg (by rw [hc]; decide)]
  ·as_aux_lemma =>
   have hC := hC54.out
   refine Rg.stepR_guarded (.int .i64 ((h.ups.length : Int))) true B52 34 false 53 (by rfl) (by kernel_rfl) (by kernel_rfl) (by kernel_rfl) (fun x hx => by rw [hF] at hx; exact hx) (fun hc a hr => ?_) (fun hc => ?_) (fun hc => ?_)
   ·have z55 := Rg.read_new hr 55 (by kernel_rfl) (by kernel_rfl); rw [hF] at z55; have r55 : a.eval (.tmp 55) = if C54 = true then .slice a3 h.ups.length c3 else undef := z55; clear z55; rw [← hC] at hc; clear hC; rw [if_pos hc] at r55; generalize a.eval = ρ at *; clear hr; go_simp
   ·rw [← hC] at hc; rw [hF]; show _ = ite _ _ _; rw [if_pos hc]
   ·rw [← hC] at hc; rw [hF]; show _ = ite _ _ _; rw [if_neg (by rw [hc]; decide)]
  ·as_aux_lemma =>
   have hC := hC54.out
   refine Rg.stepR_guarded (.bool B57) true B52 34 false 53 (by rfl) (by kernel_rfl) (by kernel_rfl) (by kernel_rfl) (fun x hx => by rw [hF] at hx; exact hx) (fun hc a hr => ?_) (fun hc => ?_) (fun hc => ?_)
   ·have z56 := Rg.read_new hr 56 (by kernel_rfl) (by kernel_rfl); rw [hF] at z56; have r56 : a.eval (.tmp 56) = if C54 = true then .int .i64 ((h.ups.length : Int)) else undef := z56; clear z56; rw [← hC] at hc; clear hC; rw [if_pos hc] at r56; have rc : ∀ v, a.eval (.const v) = v := fun _ => rfl; rw [show B57 = _ from hB57.out]; generalize a.eval = ρ at *; clear hr; go_simp
   ·rw [← hC] at hc; rw [hF]; show _ = ite _ _ _; rw [if_pos hc]
   ·rw [← hC] at hc; rw [hF]; show _ = ite _ _ _; rw [if_neg (by rw [hc]; decide)]
  ·as_aux_lemma =>
   refine Rg.stepR_free (.bool B58) (by rfl) (fun a hr => ?_) (by rw [hF]; rfl)
   have z53 := Rg.read_new hr 53 (by kernel_rfl) (by kernel_rfl); rw [hF] at z53; have r53 : a.eval (.tmp 53) = .bool B52 := z53; clear z53; have z57 := Rg.read_new hr 57 (by kernel_rfl) (by kernel_rfl); rw [hF] at z57; have r57 : a.eval (.tmp 57) = if C54 = true then .bool B57 else undef := z57; clear z57; have rc : ∀ v, a.eval (.const v) = v := fun _ => rfl; rw [show B58 = _ from hB58.out]; have e57 := hC54.out; clear hr; generalize a.eval = ρ at *; cases B52 <;> simp [e57] at r57 <;> (simp [r53, r57, rc, go_sem, execOp])
  ·as_aux_lemma =>
   refine Rg.stepR_free (.bool B58) (by rfl) (fun a hr => ?_) (by rw [hF]; rfl)
   have z58 := Rg.read_new hr 58 (by kernel_rfl) (by kernel_rfl); rw [hF] at z58; have r58 : a.eval (.tmp 58) = .bool B58 := z58; clear z58; generalize a.eval = ρ at *; clear hr; go_simp
  ·as_aux_lemma =>
   have hC := hC60.out
   refine Rg.stepR_guarded (.pointer (some ⟨w.heap.size, 9, none⟩)) true B58 40 false 59 (by rfl) (by kernel_rfl) (by kernel_rfl) (by kernel_rfl) (fun x hx => by rw [hF] at hx; exact hx) (fun hc a hr => ?_) (fun hc => ?_) (fun hc => ?_)
   ·have z2 := Rg.read_old hr 2 (by kernel_rfl) (by kernel_rfl); have r2 : a.eval (.tmp 2) = .pointer (some ⟨w.heap.size, 0, none⟩) := z2; clear z2; rw [← hC] at hc; clear hC; generalize a.eval = ρ at *; clear hr; go_simp
   ·rw [← hC] at hc; rw [hF]; show _ = ite _ _ _; rw [if_pos hc]
   ·rw [← hC] at hc; rw [hF]; show _ = ite _ _ _; rw [if_neg (by rw [hc]; decide)]
  ·as_aux_lemma =>
   have hC := hC60.out
   refine Rg.stepR_guarded (.slice a4 h.downs.length c4) true B58 40 false 59 (by rfl) (by kernel_rfl) (by kernel_rfl) (by kernel_rfl) (fun x hx => by rw [hF] at hx; exact hx) (fun hc a hr => ?_) (fun hc => ?_) (fun hc => ?_)
   ·have z60 := Rg.read_new hr 60 (by kernel_rfl) (by kernel_rfl); rw [hF] at z60; have r60 : a.eval (.tmp 60) = if C60 = true then .pointer (some ⟨w.heap.size, 9, none⟩) else undef := z60; clear z60; rw [← hC] at hc; clear hC; rw [if_pos hc] at r60; generalize a.eval = ρ at *; clear hr; go_simp
   ·rw [← hC] at hc; rw [hF]; show _ = ite _ _ _; rw [if_pos hc]
   ·rw [← hC] at hc; rw [hF]; show _ = ite _ _ _; rw [if_neg (by rw [hc]; decide)]
  ·as_aux_lemma =>
   have hC := hC60.out
   refine Rg.stepR_guarded (.int .i64 ((h.downs.length : Int))) true B58 40 false 59 (by rfl) (by kernel_rfl) (by kernel_rfl) (by kernel_rfl) (fun x hx => by rw [hF] at hx; exact hx) (fun hc a hr => ?_) (fun hc => ?_) (fun hc => ?_)
   ·have z61 := Rg.read_new hr 61 (by kernel_rfl) (by kernel_rfl); rw [hF] at z61; have r61 : a.eval (.tmp 61) = if C60 = true then .slice a4 h.downs.length c4 else undef := z61; clear z61; rw [← hC] at hc; clear hC; rw [if_pos hc] at r61; generalize a.eval = ρ at *; clear hr; go_simp
   ·rw [← hC] at hc; rw [hF]; show _ = ite _ _ _; rw [if_pos hc]
   ·rw [← hC] at hc; rw [hF]; show _ = ite _ _ _; rw [if_neg (by rw [hc]; decide)]
  ·as_aux_lemma =>
   have hC := hC60.out
   refine Rg.stepR_guarded (.bool B63) true B58 40 false 59 (by rfl) (by kernel_rfl) (by kernel_rfl) (by kernel_rfl) (fun x hx => by rw [hF] at hx; exact hx) (fun hc a hr => ?_) (fun hc => ?_) (fun hc => ?_)
   ·have z62 := Rg.read_new hr 62 (by kernel_rfl) (by kernel_rfl); rw [hF] at z62; have r62 : a.eval (.tmp 62) = if C60 = true then .int .i64 ((h.downs.length : Int)) else undef := z62; clear z62; rw [← hC] at hc; clear hC; rw [if_pos hc] at r62; have rc : ∀ v, a.eval (.const v) = v := fun _ => rfl; rw [show B63 = _ from hB63.out]; generalize a.eval = ρ at *; clear hr; go_simp
   ·rw [← hC] at hc; rw [hF]; show _ = ite _ _ _; rw [if_pos hc]
   ·rw [← hC] at hc; rw [hF]; show _ = ite _ _ _; rw [if_neg (by rw [hc]; decide)]
  ·as_aux_lemma =>
   refine Rg.stepR_free (.bool B64) (by rfl) (fun a hr => ?_) (by rw [hF]; rfl)
   have z59 := Rg.read_new hr 59 (by kernel_rfl) (by kernel_rfl); rw [hF] at z59; have r59 : a.eval (.tmp 59) = .bool B58 := z59; clear z59; have z63 := Rg.read_new hr 63 (by kernel_rfl) (by kernel_rfl); rw [hF] at z63; have r63 : a.eval (.tmp 63) = if C60 = true then .bool B63 else undef := z63; clear z63; have rc : ∀ v, a.eval (.const v) = v := fun _ => rfl; rw [show B64 = _ from hB64.out]; have e63 := hC60.out; clear hr; generalize a.eval = ρ at *; cases B58 <;> simp [e63] at r63 <;> (simp [r59, r63, rc, go_sem, execOp])
  ·as_aux_lemma =>
   refine Rg.stepR_free (.bool B64) (by rfl) (fun a hr => ?_) (by rw [hF]; rfl)
   have z64 := Rg.read_new hr 64 (by kernel_rfl) (by kernel_rfl); rw [hF] at z64; have r64 : a.eval (.tmp 64) = .bool B64 := z64; clear z64; generalize a.eval = ρ at *; clear hr; go_simp
  ·as_aux_lemma =>
   have hC := hC66.out
   refine Rg.stepR_guarded (.pointer (some ⟨w.heap.size, 10, none⟩)) true B64 46 false 65 (by rfl) (by kernel_rfl) (by kernel_rfl) (by kernel_rfl) (fun x hx => by rw [hF] at hx; exact hx) (fun hc a hr => ?_) (fun hc => ?_) (fun hc => ?_)
   ·have z2 := Rg.read_old hr 2 (by kernel_rfl) (by kernel_rfl); have r2 : a.eval (.tmp 2) = .pointer (some ⟨w.heap.size, 0, none⟩) := z2; clear z2; rw [← hC] at hc; clear hC; generalize a.eval = ρ at *; clear hr; go_simp
   ·rw [← hC] at hc; rw [hF]; show _ = ite _ _ _; rw [if_pos hc]
   ·rw [← hC] at hc; rw [hF]; show _ = ite _ _ _; rw [if_neg (by rw [hc]; decide)]
  ·as_aux_lemma =>
   have hC := hC66.out
   refine Rg.stepR_guarded (.slice a5 h.fups.length c5) true B64 46 false 65 (by rfl) (by kernel_rfl) (by kernel_rfl) (by kernel_rfl) (fun x hx => by rw [hF] at hx; exact hx) (fun hc a hr => ?_) (fun hc => ?_) (fun hc => ?_)
   ·have z66 := Rg.read_new hr 66 (by kernel_rfl) (by kernel_rfl); rw [hF] at z66; have r66 : a.eval (.tmp 66) = if C66 = true then .pointer (some ⟨w.heap.size, 10, none⟩) else undef := z66; clear z66; rw [← hC] at hc; clear hC; rw [if_pos hc] at r66; generalize a.eval = ρ at *; clear hr; go_simp
   ·rw [← hC] at hc; rw [hF]; show _ = ite _ _ _; rw [if_pos hc]
   ·rw [← hC] at hc; rw [hF]; show _ = ite _ _ _; rw [if_neg (by rw [hc]; decide)]
  ·as_aux_lemma =>
   have hC := hC66.out
   refine Rg.stepR_guarded (.int .i64 ((h.fups.length : Int))) true B64 46 false 65 (by rfl) (by kernel_rfl) (by kernel_rfl) (by kernel_rfl) (fun x hx => by rw [hF] at hx; exact hx) (fun hc a hr => ?_) (fun hc => ?_) (fun hc => ?_)
   ·have z67 := Rg.read_new hr 67 (by kernel_rfl) (by kernel_rfl); rw [hF] at z67; have r67 : a.eval (.tmp 67) = if C66 = true then .slice a5 h.fups.length c5 else undef := z67; clear z67; rw [← hC] at hc; clear hC; rw [if_pos hc] at r67; generalize a.eval = ρ at *; clear hr; go_simp
   ·rw [← hC] at hc; rw [hF]; show _ = ite _ _ _; rw [if_pos hc]
   ·rw [← hC] at hc; rw [hF]; show _ = ite _ _ _; rw [if_neg (by rw [hc]; decide)]
  ·as_aux_lemma =>
   have hC := hC66.out
   refine Rg.stepR_guarded (.bool B69) true B64 46 false 65 (by rfl) (by kernel_rfl) (by kernel_rfl) (by kernel_rfl) (fun x hx => by rw [hF] at hx; exact hx) (fun hc a hr => ?_) (fun hc => ?_) (fun hc => ?_)
   ·have z68 := Rg.read_new hr 68 (by kernel_rfl) (by kernel_rfl); rw [hF] at z68; have r68 : a.eval (.tmp 68) = if C66 = true then .int .i64 ((h.fups.length : Int)) else undef := z68; clear z68; rw [← hC] at hc; clear hC; rw [if_pos hc] at r68; have rc : ∀ v, a.eval (.const v) = v := fun _ => rfl; rw [show B69 = _ from hB69.out]; generalize a.eval = ρ at *; clear hr; go_simp
   ·rw [← hC] at hc; rw [hF]; show _ = ite _ _ _; rw [if_pos hc]
   ·rw [← hC] at hc; rw [hF]; show _ = ite _ _ _; rw [if_neg (by rw [hc]; decide)]
  ·as_aux_lemma =>
   refine Rg.stepR_free (.bool B70) (by rfl) (fun a hr => ?_) (by rw [hF]; rfl)
   have z65 := Rg.read_new hr 65 (by kernel_rfl) (by kernel_rfl); rw [hF] at z65; have r65 : a.eval (.tmp 65) = .bool B64 := z65; clear z65; have z69 := Rg.read_new hr 69 (by kernel_rfl) (by kernel_rfl); rw [hF] at z69; have r69 : a.eval (.tmp 69) = if C66 = true then .bool B69 else undef := z69; clear z69; have rc : ∀ v, a.eval (.const v) = v := fun _ => rfl; rw [show B70 = _ from hB70.out]; have e69 := hC66.out; clear hr; generalize a.eval = ρ at *; cases B64 <;> simp [e69] at r69 <;> (simp [r65, r69, rc, go_sem, execOp])
  ·as_aux_lemma =>
   refine Rg.stepR_free (.bool B70) (by rfl) (fun a hr => ?_) (by rw [hF]; rfl)
   have z70 := Rg.read_new hr 70 (by kernel_rfl) (by kernel_rfl); rw [hF] at z70; have r70 : a.eval (.tmp 70) = .bool B70 := z70; clear z70; generalize a.eval = ρ at *; clear hr; go_simp
  ·as_aux_lemma =>
   have hC := hC72.out
   refine Rg.stepR_guarded (.pointer (some ⟨w.heap.size, 11, none⟩)) true B70 52 false 71 (by rfl) (by kernel_rfl) (by kernel_rfl) (by kernel_rfl) (fun x hx => by rw [hF] at hx; exact hx) (fun hc a hr => ?_) (fun hc => ?_) (fun hc => ?_)
   ·have z2 := Rg.read_old hr 2 (by kernel_rfl) (by kernel_rfl); have r2 : a.eval (.tmp 2) = .pointer (some ⟨w.heap.size, 0, none⟩) := z2; clear z2; rw [← hC] at hc; clear hC; generalize a.eval = ρ at *; clear hr; go_simp
   ·rw [← hC] at hc; rw [hF]; show _ = ite _ _ _; rw [if_pos hc]
   ·rw [← hC] at hc; rw [hF]; show _ = ite _ _ _; rw [if_neg (by rw [hc]; decide)]
  ·as_aux_lemma =>
   have hC := hC72.out
   refine Rg.stepR_guarded (.slice a6 h.fdowns.length c6) true B70 52 false 71 (by rfl) (by kernel_rfl) (by kernel_rfl) (by kernel_rfl) (fun x hx => by rw [hF] at hx; exact hx) (fun hc a hr => ?_) (fun hc => ?_) (fun hc => ?_)
   ·have z72 := Rg.read_new hr 72 (by kernel_rfl) (by kernel_rfl); rw [hF] at z72; have r72 : a.eval (.tmp 72) = if C72 = true then .pointer (some ⟨w.heap.size, 11, none⟩) else undef := z72; clear z72; rw [← hC] at hc; clear hC; rw [if_pos hc] at r72; generalize a.eval = ρ at *; clear hr; go_simp
   ·rw [← hC] at hc; rw [hF]; show _ = ite _ _ _; rw [if_pos hc]
   ·rw [← hC] at hc; rw [hF]; show _ = ite _ _ _; rw [if_neg (by rw [hc]; decide)]
  ·as_aux_lemma =>
   have hC := hC72.out
   refine Rg.stepR_guarded (.int .i64 ((h.fdowns.length : Int))) true B70 52 false 71 (by rfl) (by kernel_rfl) (by kernel_rfl) (by kernel_rfl) (fun x hx => by rw [hF] at hx; exact hx) (fun hc a hr => ?_) (fun hc => ?_) (fun hc => ?_)
   ·have z73 := Rg.read_new hr 73 (by kernel_rfl) (by kernel_rfl); rw [hF] at z73; have r73 : a.eval (.tmp 73) = if C72 = true then .slice a6 h.fdowns.length c6 else undef := z73; clear z73; rw [← hC] at hc; clear hC; rw [if_pos hc] at r73; generalize a.eval = ρ at *; clear hr; go_simp
   ·rw [← hC] at hc; rw [hF]; show _ = ite _ _ _; rw [if_pos hc]
   ·rw [← hC] at hc; rw [hF]; show _ = ite _ _ _; rw [if_neg (by rw [hc]; decide)]
  ·as_aux_lemma =>
   have hC := hC72.out
   refine Rg.stepR_guarded (.bool B75) true B70 52 false 71 (by rfl) (by kernel_rfl) (by kernel_rfl) (by kernel_rfl) (fun x hx => by rw [hF] at hx; exact hx) (fun hc a hr => ?_) (fun hc => ?_) (fun hc => ?_)
   ·have z74 := Rg.read_new hr 74 (by kernel_rfl) (by kernel_rfl); rw [hF] at z74; have r74 : a.eval (.tmp 74) = if C72 = true then .int .i64 ((h.fdowns.length : Int)) else undef := z74; clear z74; rw [← hC] at hc; clear hC; rw [if_pos hc] at r74; have rc : ∀ v, a.eval (.const v) = v := fun _ => rfl; rw [show B75 = _ from hB75.out]; generalize a.eval = ρ at *; clear hr; go_simp
   ·rw [← hC] at hc; rw [hF]; show _ = ite _ _ _; rw [if_pos hc]
   ·rw [← hC] at hc; rw [hF]; show _ = ite _ _ _; rw [if_neg (by rw [hc]; decide)]
  ·as_aux_lemma =>
   refine Rg.stepR_free (.bool B76) (by rfl) (fun a hr => ?_) (by rw [hF]; rfl)
   have z71 := Rg.read_new hr 71 (by kernel_rfl) (by kernel_rfl); rw [hF] at z71; have r71 : a.eval (.tmp 71) = .bool B70 := z71; clear z71; have z75 := Rg.read_new hr 75 (by kernel_rfl) (by kernel_rfl); rw [hF] at z75; have r75 : a.eval (.tmp 75) = if C72 = true then .bool B75 else undef := z75; clear z75; have rc : ∀ v, a.eval (.const v) = v := fun _ => rfl; rw [show B76 = _ from hB76.out]; have e75 := hC72.out; clear hr; generalize a.eval = ρ at *; cases B70 <;> simp [e75] at r75 <;> (simp [r71, r75, rc, go_sem, execOp])
  ·as_aux_lemma =>
   refine Rg.stepR_free (.bool B76) (by rfl) (fun a hr => ?_) (by rw [hF]; rfl)
   have z76 := Rg.read_new hr 76 (by kernel_rfl) (by kernel_rfl); rw [hF] at z76; have r76 : a.eval (.tmp 76) = .bool B76 := z76; clear z76; generalize a.eval = ρ at *; clear hr; go_simp
  ·as_aux_lemma =>
   have hC := hC78.out
   refine Rg.stepR_guarded (.pointer (some ⟨w.heap.size, 6, none⟩)) true B76 58 false 77 (by rfl) (by kernel_rfl) (by kernel_rfl) (by kernel_rfl) (fun x hx => by rw [hF] at hx; exact hx) (fun hc a hr => ?_) (fun hc => ?_) (fun hc => ?_)
   ·have z2 := Rg.read_old hr 2 (by kernel_rfl) (by kernel_rfl); have r2 : a.eval (.tmp 2) = .pointer (some ⟨w.heap.size, 0, none⟩) := z2; clear z2; rw [← hC] at hc; clear hC; generalize a.eval = ρ at *; clear hr; go_simp
   ·rw [← hC] at hc; rw [hF]; show _ = ite _ _ _; rw [if_pos hc]
   ·rw [← hC] at hc; rw [hF]; show _ = ite _ _ _; rw [if_neg (by rw [hc]; decide)]
  ·as_aux_lemma =>
   have hC := hC78.out
   refine Rg.stepR_guarded (.slice a1 h.pos.length c1) true B76 58 false 77 (by rfl) (by kernel_rfl) (by kernel_rfl) (by kernel_rfl) (fun x hx => by rw [hF] at hx; exact hx) (fun hc a hr => ?_) (fun hc => ?_) (fun hc => ?_)
   ·have z78 := Rg.read_new hr 78 (by kernel_rfl) (by kernel_rfl); rw [hF] at z78; have r78 : a.eval (.tmp 78) = if C78 = true then .pointer (some ⟨w.heap.size, 6, none⟩) else undef := z78; clear z78; rw [← hC] at hc; clear hC; rw [if_pos hc] at r78; generalize a.eval = ρ at *; clear hr; go_simp
   ·rw [← hC] at hc; rw [hF]; show _ = ite _ _ _; rw [if_pos hc]
   ·rw [← hC] at hc; rw [hF]; show _ = ite _ _ _; rw [if_neg (by rw [hc]; decide)]
  ·as_aux_lemma =>
   have hC := hC78.out
   refine Rg.stepR_guarded (.int .i64 ((h.pos.length : Int))) true B76 58 false 77 (by rfl) (by kernel_rfl) (by kernel_rfl) (by kernel_rfl) (fun x hx => by rw [hF] at hx; exact hx) (fun hc a hr => ?_) (fun hc => ?_) (fun hc => ?_)
   ·have z79 := Rg.read_new hr 79 (by kernel_rfl) (by kernel_rfl); rw [hF] at z79; have r79 : a.eval (.tmp 79) = if C78 = true then .slice a1 h.pos.length c1 else undef := z79; clear z79; rw [← hC] at hc; clear hC; rw [if_pos hc] at r79; generalize a.eval = ρ at *; clear hr; go_simp
   ·rw [← hC] at hc; rw [hF]; show _ = ite _ _ _; rw [if_pos hc]
   ·rw [← hC] at hc; rw [hF]; show _ = ite _ _ _; rw [if_neg (by rw [hc]; decide)]
  ·as_aux_lemma =>
   have hC := hC78.out
   refine Rg.stepR_guarded (.bool B81) true B76 58 false 77 (by rfl) (by kernel_rfl) (by kernel_rfl) (by kernel_rfl) (fun x hx => by rw [hF] at hx; exact hx) (fun hc a hr => ?_) (fun hc => ?_) (fun hc => ?_)
   ·have z80 := Rg.read_new hr 80 (by kernel_rfl) (by kernel_rfl); rw [hF] at z80; have r80 : a.eval (.tmp 80) = if C78 = true then .int .i64 ((h.pos.length : Int)) else undef := z80; clear z80; rw [← hC] at hc; clear hC; rw [if_pos hc] at r80; have rc : ∀ v, a.eval (.const v) = v := fun _ => rfl; rw [show B81 = _ from hB81.out]; generalize a.eval = ρ at *; clear hr; go_simp
   ·rw [← hC] at hc; rw [hF]; show _ = ite _ _ _; rw [if_pos hc]
   ·rw [← hC] at hc; rw [hF]; show _ = ite _ _ _; rw [if_neg (by rw [hc]; decide)]
  ·as_aux_lemma =>
   refine Rg.stepR_free (.bool B82) (by rfl) (fun a hr => ?_) (by rw [hF]; rfl)
   have z77 := Rg.read_new hr 77 (by kernel_rfl) (by kernel_rfl); rw [hF] at z77; have r77 : a.eval (.tmp 77) = .bool B76 := z77; clear z77; have z81 := Rg.read_new hr 81 (by kernel_rfl) (by kernel_rfl); rw [hF] at z81; have r81 : a.eval (.tmp 81) = if C78 = true then .bool B81 else undef := z81; clear z81; have rc : ∀ v, a.eval (.const v) = v := fun _ => rfl; rw [show B82 = _ from hB82.out]; have e81 := hC78.out; clear hr; generalize a.eval = ρ at *; cases B76 <;> simp [e81] at r81 <;> (simp [r77, r81, rc, go_sem, execOp])
  ·as_aux_lemma =>
   refine Rg.stepR_free (.bool B82) (by rfl) (fun a hr => ?_) (by rw [hF]; rfl)
   have z82 := Rg.read_new hr 82 (by kernel_rfl) (by kernel_rfl); rw [hF] at z82; have r82 : a.eval (.tmp 82) = .bool B82 := z82; clear z82; generalize a.eval = ρ at *; clear hr; go_simp
  ·as_aux_lemma =>
   have hC := hC84.out
   refine Rg.stepR_guarded (.pointer (some ⟨w.heap.size, 7, none⟩)) true B82 64 false 83 (by rfl) (by kernel_rfl) (by kernel_rfl) (by kernel_rfl) (fun x hx => by rw [hF] at hx; exact hx) (fun hc a hr => ?_) (fun hc => ?_) (fun hc => ?_)
   ·have z2 := Rg.read_old hr 2 (by kernel_rfl) (by kernel_rfl); have r2 : a.eval (.tmp 2) = .pointer (some ⟨w.heap.size, 0, none⟩) := z2; clear z2; rw [← hC] at hc; clear hC; generalize a.eval = ρ at *; clear hr; go_simp
   ·rw [← hC] at hc; rw [hF]; show _ = ite _ _ _; rw [if_pos hc]
   ·rw [← hC] at hc; rw [hF]; show _ = ite _ _ _; rw [if_neg (by rw [hc]; decide)]
  ·as_aux_lemma =>
   have hC := hC84.out
   refine Rg.stepR_guarded (.slice a2 h.neg.length c2) true B82 64 false 83 (by rfl) (by kernel_rfl) (by kernel_rfl) (by kernel_rfl) (fun x hx => by rw [hF] at hx; exact hx) (fun hc a hr => ?_) (fun hc => ?_) (fun hc => ?_)
   ·have z84 := Rg.read_new hr 84 (by kernel_rfl) (by kernel_rfl); rw [hF] at z84; have r84 : a.eval (.tmp 84) = if C84 = true then .pointer (some ⟨w.heap.size, 7, none⟩) else undef := z84; clear z84; rw [← hC] at hc; clear hC; rw [if_pos hc] at r84; generalize a.eval = ρ at *; clear hr; go_simp
   ·rw [← hC] at hc; rw [hF]; show _ = ite _ _ _; rw [if_pos hc]
   ·rw [← hC] at hc; rw [hF]; show _ = ite _ _ _; rw [if_neg (by rw [hc]; decide)]
  ·as_aux_lemma =>
   have hC := hC84.out
   refine Rg.stepR_guarded (.int .i64 ((h.neg.length : Int))) true B82 64 false 83 (by rfl) (by kernel_rfl) (by kernel_rfl) (by kernel_rfl) (fun x hx => by rw [hF] at hx; exact hx) (fun hc a hr => ?_) (fun hc => ?_) (fun hc => ?_)
   ·have z85 := Rg.read_new hr 85 (by kernel_rfl) (by kernel_rfl); rw [hF] at z85; have r85 : a.eval (.tmp 85) = if C84 = true then .slice a2 h.neg.length c2 else undef := z85; clear z85; rw [← hC] at hc; clear hC; rw [if_pos hc] at r85; generalize a.eval = ρ at *; clear hr; go_simp
   ·rw [← hC] at hc; rw [hF]; show _ = ite _ _ _; rw [if_pos hc]
   ·rw [← hC] at hc; rw [hF]; show _ = ite _ _ _; rw [if_neg (by rw [hc]; decide)]
  ·as_aux_lemma =>
   have hC := hC84.out
   refine Rg.stepR_guarded (.bool B87) true B82 64 false 83 (by rfl) (by kernel_rfl) (by kernel_rfl) (by kernel_rfl) (fun x hx => by rw [hF] at hx; exact hx) (fun hc a hr => ?_) (fun hc => ?_) (fun hc => ?_)
   ·have z86 := Rg.read_new hr 86 (by kernel_rfl) (by kernel_rfl); rw [hF] at z86; have r86 : a.eval (.tmp 86) = if C84 = true then .int .i64 ((h.neg.length : Int)) else undef := z86; clear z86; rw [← hC] at hc; clear hC; rw [if_pos hc] at r86; have rc : ∀ v, a.eval (.const v) = v := fun _ => rfl; rw [show B87 = _ from hB87.out]; generalize a.eval = ρ at *; clear hr; go_simp
   ·rw [← hC] at hc; rw [hF]; show _ = ite _ _ _; rw [if_pos hc]
   ·rw [← hC] at hc; rw [hF]; show _ = ite _ _ _; rw [if_neg (by rw [hc]; decide)]
  ·as_aux_lemma =>
   refine Rg.stepR_free (.bool B88) (by rfl) (fun a hr => ?_) (by rw [hF]; rfl)
   have z83 := Rg.read_new hr 83 (by kernel_rfl) (by kernel_rfl); rw [hF] at z83; have r83 : a.eval (.tmp 83) = .bool B82 := z83; clear z83; have z87 := Rg.read_new hr 87 (by kernel_rfl) (by kernel_rfl); rw [hF] at z87; have r87 : a.eval (.tmp 87) = if C84 = true then .bool B87 else undef := z87; clear z87; have rc : ∀ v, a.eval (.const v) = v := fun _ => rfl; rw [show B88 = _ from hB88.out]; have e87 := hC84.out; clear hr; generalize a.eval = ρ at *; cases B82 <;> simp [e87] at r87 <;> (simp [r83, r87, rc, go_sem, execOp])
  ·as_aux_lemma =>
   refine Rg.stepR_free (.bool B88) (by rfl) (fun a hr => ?_) (by rw [hF]; rfl)
   have z88 := Rg.read_new hr 88 (by kernel_rfl) (by kernel_rfl); rw [hF] at z88; have r88 : a.eval (.tmp 88) = .bool B88 := z88; clear z88; generalize a.eval = ρ at *; clear hr; go_simp
  ·as_aux_lemma =>
   have hC := hC90.out
   refine Rg.stepR_guarded (.pointer (some ⟨w.heap.size, 12, none⟩)) true B88 70 false 89 (by rfl) (by kernel_rfl) (by kernel_rfl) (by kernel_rfl) (fun x hx => by rw [hF] at hx; exact hx) (fun hc a hr => ?_) (fun hc => ?_) (fun hc => ?_)
   ·have z2 := Rg.read_old hr 2 (by kernel_rfl) (by kernel_rfl); have r2 : a.eval (.tmp 2) = .pointer (some ⟨w.heap.size, 0, none⟩) := z2; clear z2; rw [← hC] at hc; clear hC; generalize a.eval = ρ at *; clear hr; go_simp
   ·rw [← hC] at hc; rw [hF]; show _ = ite _ _ _; rw [if_pos hc]
   ·rw [← hC] at hc; rw [hF]; show _ = ite _ _ _; rw [if_neg (by rw [hc]; decide)]
  ·as_aux_lemma =>
   have hC := hC90.out
   refine Rg.stepR_guarded (.slice a7 h.cus.length c7) true B88 70 false 89 (by rfl) (by kernel_rfl) (by kernel_rfl) (by kernel_rfl) (fun x hx => by rw [hF] at hx; exact hx) (fun hc a hr => ?_) (fun hc => ?_) (fun hc => ?_)
   ·have z90 := Rg.read_new hr 90 (by kernel_rfl) (by kernel_rfl); rw [hF] at z90; have r90 : a.eval (.tmp 90) = if C90 = true then .pointer (some ⟨w.heap.size, 12, none⟩) else undef := z90; clear z90; rw [← hC] at hc; clear hC; rw [if_pos hc] at r90; generalize a.eval = ρ at *; clear hr; go_simp
   ·rw [← hC] at hc; rw [hF]; show _ = ite _ _ _; rw [if_pos hc]
   ·rw [← hC] at hc; rw [hF]; show _ = ite _ _ _; rw [if_neg (by rw [hc]; decide)]
  ·as_aux_lemma =>
   have hC := hC90.out
   refine Rg.stepR_guarded (.int .i64 ((h.cus.length : Int))) true B88 70 false 89 (by rfl) (by kernel_rfl) (by kernel_rfl) (by kernel_rfl) (fun x hx => by rw [hF] at hx; exact hx) (fun hc a hr => ?_) (fun hc => ?_) (fun hc => ?_)
   ·have z91 := Rg.read_new hr 91 (by kernel_rfl) (by kernel_rfl); rw [hF] at z91; have r91 : a.eval (.tmp 91) = if C90 = true then .slice a7 h.cus.length c7 else undef := z91; clear z91; rw [← hC] at hc; clear hC; rw [if_pos hc] at r91; generalize a.eval = ρ at *; clear hr; go_simp
   ·rw [← hC] at hc; rw [hF]; show _ = ite _ _ _; rw [if_pos hc]
   ·rw [← hC] at hc; rw [hF]; show _ = ite _ _ _; rw [if_neg (by rw [hc]; decide)]
  ·as_aux_lemma =>
   have hC := hC90.out
   refine Rg.stepR_guarded (.bool B93) true B88 70 false 89 (by rfl) (by kernel_rfl) (by kernel_rfl) (by kernel_rfl) (fun x hx => by rw [hF] at hx; exact hx) (fun hc a hr => ?_) (fun hc => ?_) (fun hc => ?_)
   ·have z92 := Rg.read_new hr 92 (by kernel_rfl) (by kernel_rfl); rw [hF] at z92; have r92 : a.eval (.tmp 92) = if C90 = true then .int .i64 ((h.cus.length : Int)) else undef := z92; clear z92; rw [← hC] at hc; clear hC; rw [if_pos hc] at r92; have rc : ∀ v, a.eval (.const v) = v := fun _ => rfl; rw [show B93 = _ from hB93.out]; generalize a.eval = ρ at *; clear hr; go_simp
   ·rw [← hC] at hc; rw [hF]; show _ = ite _ _ _; rw [if_pos hc]
   ·rw [← hC] at hc; rw [hF]; show _ = ite _ _ _; rw [if_neg (by rw [hc]; decide)]
  ·as_aux_lemma =>
   refine Rg.stepR_free (.bool B94) (by rfl) (fun a hr => ?_) (by rw [hF]; rfl)
   have z89 := Rg.read_new hr 89 (by kernel_rfl) (by kernel_rfl); rw [hF] at z89; have r89 : a.eval (.tmp 89) = .bool B88 := z89; clear z89; have z93 := Rg.read_new hr 93 (by kernel_rfl) (by kernel_rfl); rw [hF] at z93; have r93 : a.eval (.tmp 93) = if C90 = true then .bool B93 else undef := z93; clear z93; have rc : ∀ v, a.eval (.const v) = v := fun _ => rfl; rw [show B94 = _ from hB94.out]; have e93 := hC90.out; clear hr; generalize a.eval = ρ at *; cases B88 <;> simp [e93] at r93 <;> (simp [r89, r93, rc, go_sem, execOp])
 intro u hu
 have e94 : u 94 = .bool B94 := by have z := hu 94 (by rfl); rw [hF] at z; exact z
 clear hu
 simp only [e94]
 clear e94
 cases B94 with
 | true =>
  go_wp2
  go_ret
  exact fitPost_no hB0
 | false =>
 have FA : Hid (h.hint ≤ 3 ∧ (cus = false → (-4 ≤ h.schema ∧ h.schema ≤ 8) ∧ h.cus.length = 0) ∧ plain h.thr = true ∧ (h.sum : Int) ≠ 9218868437227405314 ∧ h.ups.length ≤ 60 ∧ h.downs.length ≤ 60 ∧ h.fups.length ≤ 60 ∧ h.fdowns.length ≤ 60 ∧ h.pos.length ≤ 60 ∧ h.neg.length ≤ 60 ∧ h.cus.length ≤ 60) := by
  have z := hB94.out.symm
  simp only [hB21.out, hB24.out, hB28.out, hB32.out, hB33.out, hB38.out, hB39.out, hB40.out, hB41.out, hB45.out, hB46.out, hB47.out, hB51.out, hB52.out, hB57.out, hB58.out, hB63.out, hB64.out, hB69.out, hB70.out, hB75.out, hB76.out, hB81.out, hB82.out, hB87.out, hB88.out, hB93.out, Bool.or_eq_false_iff, Bool.and_eq_false_imp, Bool.not_eq_true', Bool.not_eq_false', decide_eq_false_iff_not, beq_eq_false_iff_ne] at z
  obtain ⟨⟨⟨⟨⟨⟨⟨⟨⟨⟨z1, z2⟩, z3⟩, z4⟩, z5⟩, z6⟩, z7⟩, z8⟩, z9⟩, z10⟩, z11⟩ := z
  exact ⟨by omega, fun hc => ⟨by have := (z2 hc).1; omega, by have := (z2 hc).2; omega⟩, z3, z4, by omega, by omega, by omega, by omega, by omega, by omega, by omega⟩
 clear hF hB21 hC23 hB24 hC26 hB28 hC30 hB32 hB33 hC35 hB38 hB39 hB40 hB41 hC43 hB45 hB46 hB47 hC49 hB51 hB52 hC54 hB57 hB58 hC60 hB63 hB64 hC66 hB69 hB70 hC72 hB75 hB76 hC78 hB81 hB82 hC84 hB87 hB88 hC90 hB93 hB94
 go_upto_region 4 with fail
 have hwa : IntKind.i64.wrap ((h.ups.length : Int) + (h.downs.length : Int)) = (h.ups.length : Int) + (h.downs.length : Int) := by have := HX.1.ups; have := HX.1.downs; exact IntWalk.i64_in _ (by omega)
 have hwb : IntKind.i64.wrap ((h.fups.length : Int) + (h.fdowns.length : Int)) = (h.fups.length : Int) + (h.fdowns.length : Int) := by clear hwa; have := HX.1.fups; have := HX.1.fdowns; exact IntWalk.i64_in _ (by omega)
 obtain ⟨C97v, hC97v⟩ : ∃ B : Bool, RowKit.Hid (B = (true && (fl == true))) := ⟨_, rfl⟩
 obtain ⟨B104v, hB104v⟩ : ∃ B : Bool, RowKit.Hid (B = (decide (((0 : Int)) < (((h.ups.length : Int) + (h.downs.length : Int) : Int))))) := ⟨_, rfl⟩
 obtain ⟨C106v, hC106v⟩ : ∃ B : Bool, RowKit.Hid (B = (C97v && (B104v == false))) := ⟨_, rfl⟩
 obtain ⟨B108v, hB108v⟩ : ∃ B : Bool, RowKit.Hid (B = (plain ((h.cnt : Int)))) := ⟨_, rfl⟩
 obtain ⟨B109v, hB109v⟩ : ∃ B : Bool, RowKit.Hid (B = (!(B108v))) := ⟨_, rfl⟩
 obtain ⟨B110v, hB110v⟩ : ∃ B : Bool, RowKit.Hid (B = ((B104v) || (B109v))) := ⟨_, rfl⟩
 obtain ⟨C112v, hC112v⟩ : ∃ B : Bool, RowKit.Hid (B = (C97v && (B110v == false))) := ⟨_, rfl⟩
 obtain ⟨B114v, hB114v⟩ : ∃ B : Bool, RowKit.Hid (B = (plain ((h.zc : Int)))) := ⟨_, rfl⟩
 obtain ⟨B115v, hB115v⟩ : ∃ B : Bool, RowKit.Hid (B = (!(B114v))) := ⟨_, rfl⟩
 obtain ⟨B116v, hB116v⟩ : ∃ B : Bool, RowKit.Hid (B = ((B110v) || (B115v))) := ⟨_, rfl⟩
 obtain ⟨B117v, hB117v⟩ : ∃ B : Bool, RowKit.Hid (B = ((fl) && (B116v))) := ⟨_, rfl⟩
 obtain ⟨C119v, hC119v⟩ : ∃ B : Bool, RowKit.Hid (B = (true && (B117v == false))) := ⟨_, rfl⟩
 obtain ⟨B120v, hB120v⟩ : ∃ B : Bool, RowKit.Hid (B = (!(fl))) := ⟨_, rfl⟩
 obtain ⟨C122v, hC122v⟩ : ∃ B : Bool, RowKit.Hid (B = (C119v && (B120v == true))) := ⟨_, rfl⟩
 obtain ⟨B129v, hB129v⟩ : ∃ B : Bool, RowKit.Hid (B = (decide (((0 : Int)) < (((h.fups.length : Int) + (h.fdowns.length : Int) : Int))))) := ⟨_, rfl⟩
 obtain ⟨C131v, hC131v⟩ : ∃ B : Bool, RowKit.Hid (B = (C122v && (B129v == false))) := ⟨_, rfl⟩
 obtain ⟨B133v, hB133v⟩ : ∃ B : Bool, RowKit.Hid (B = (decide (((1125899906842624 : Int)) < (((h.cnt : Int) : Int))))) := ⟨_, rfl⟩
 obtain ⟨B134v, hB134v⟩ : ∃ B : Bool, RowKit.Hid (B = ((B129v) || (B133v))) := ⟨_, rfl⟩
 obtain ⟨C136v, hC136v⟩ : ∃ B : Bool, RowKit.Hid (B = (C122v && (B134v == false))) := ⟨_, rfl⟩
 obtain ⟨B138v, hB138v⟩ : ∃ B : Bool, RowKit.Hid (B = (decide (((1125899906842624 : Int)) < (((h.zc : Int) : Int))))) := ⟨_, rfl⟩
 obtain ⟨B139v, hB139v⟩ : ∃ B : Bool, RowKit.Hid (B = ((B134v) || (B138v))) := ⟨_, rfl⟩
 obtain ⟨B140v, hB140v⟩ : ∃ B : Bool, RowKit.Hid (B = ((B120v) && (B139v))) := ⟨_, rfl⟩
 obtain ⟨B141v, hB141v⟩ : ∃ B : Bool, RowKit.Hid (B = ((B117v) || (B140v))) := ⟨_, rfl⟩
 obtain ⟨Fv, hFv⟩ : ∃ F : Tmp → Value → Prop, F = (fun s zz => match s with
   | 95 => zz = .bool fl
   | 96 => zz = .bool fl
   | 97 => zz = if C97v = true then .pointer (some ⟨w.heap.size, 8, none⟩) else undef
   | 98 => zz = if C97v = true then .slice a3 h.ups.length c3 else undef
   | 99 => zz = if C97v = true then .int .i64 ((h.ups.length : Int)) else undef
   | 100 => zz = if C97v = true then .pointer (some ⟨w.heap.size, 9, none⟩) else undef
   | 101 => zz = if C97v = true then .slice a4 h.downs.length c4 else undef
   | 102 => zz = if C97v = true then .int .i64 ((h.downs.length : Int)) else undef
   | 103 => zz = if C97v = true then .int .i64 ((h.ups.length : Int) + (h.downs.length : Int)) else undef
   | 104 => zz = if C97v = true then .bool B104v else undef
   | 105 => zz = if C97v = true then .bool B104v else undef
   | 106 => zz = if C106v = true then .pointer (some ⟨w.heap.size, 5, none⟩) else undef
   | 107 => zz = if C106v = true then .int .u64 ((h.cnt : Int)) else undef
   | 108 => zz = if C106v = true then .bool B108v else undef
   | 109 => zz = if C106v = true then .bool B109v else undef
   | 110 => zz = if C97v = true then .bool B110v else undef
   | 111 => zz = if C97v = true then .bool B110v else undef
   | 112 => zz = if C112v = true then .pointer (some ⟨w.heap.size, 4, none⟩) else undef
   | 113 => zz = if C112v = true then .int .u64 ((h.zc : Int)) else undef
   | 114 => zz = if C112v = true then .bool B114v else undef
   | 115 => zz = if C112v = true then .bool B115v else undef
   | 116 => zz = if C97v = true then .bool B116v else undef
   | 117 => zz = .bool B117v
   | 118 => zz = .bool B117v
   | 119 => zz = if C119v = true then .bool fl else undef
   | 120 => zz = if C119v = true then .bool B120v else undef
   | 121 => zz = if C119v = true then .bool B120v else undef
   | 122 => zz = if C122v = true then .pointer (some ⟨w.heap.size, 10, none⟩) else undef
   | 123 => zz = if C122v = true then .slice a5 h.fups.length c5 else undef
   | 124 => zz = if C122v = true then .int .i64 ((h.fups.length : Int)) else undef
   | 125 => zz = if C122v = true then .pointer (some ⟨w.heap.size, 11, none⟩) else undef
   | 126 => zz = if C122v = true then .slice a6 h.fdowns.length c6 else undef
   | 127 => zz = if C122v = true then .int .i64 ((h.fdowns.length : Int)) else undef
   | 128 => zz = if C122v = true then .int .i64 ((h.fups.length : Int) + (h.fdowns.length : Int)) else undef
   | 129 => zz = if C122v = true then .bool B129v else undef
   | 130 => zz = if C122v = true then .bool B129v else undef
   | 131 => zz = if C131v = true then .pointer (some ⟨w.heap.size, 5, none⟩) else undef
   | 132 => zz = if C131v = true then .int .u64 ((h.cnt : Int)) else undef
   | 133 => zz = if C131v = true then .bool B133v else undef
   | 134 => zz = if C122v = true then .bool B134v else undef
   | 135 => zz = if C122v = true then .bool B134v else undef
   | 136 => zz = if C136v = true then .pointer (some ⟨w.heap.size, 4, none⟩) else undef
   | 137 => zz = if C136v = true then .int .u64 ((h.zc : Int)) else undef
   | 138 => zz = if C136v = true then .bool B138v else undef
   | 139 => zz = if C122v = true then .bool B139v else undef
   | 140 => zz = if C119v = true then .bool B140v else undef
   | 141 => zz = .bool B141v
   | _ => True) := ⟨_, rfl⟩
 refine Rg.region_pure2 Fv [95, 96, 97, 98, 99, 100, 101, 102, 103, 104, 105, 106, 107, 108, 109, 110, 111, 112, 113, 114, 115, 116, 117, 118, 119, 120, 121, 122, 123, 124, 125, 126, 127, 128, 129, 130, 131, 132, 133, 134, 135, 136, 137, 138, 139, 140, 141] (fun uv => ⟨#[.agg #[.int .u8 h.hint, .int .i32 h.schema, .int .u64 h.thr, .int .u64 h.sum, .int .u64 h.zc, .int .u64 h.cnt, .slice a1 h.pos.length c1, .slice a2 h.neg.length c2, .slice a3 h.ups.length c3, .slice a4 h.downs.length c4, .slice a5 h.fups.length c5, .slice a6 h.fdowns.length c6, .slice a7 h.cus.length c7], .bool fl, .pointer (some ⟨w.heap.size, 0, none⟩), undef, .bool false, .bool cus, undef, undef, undef, undef, undef, undef, undef, undef, undef, undef, .pointer (some ⟨w.heap.size, 1, none⟩), .int .i32 h.schema, .bool cus, u 19, u 20, u 21, u 22, u 23, u 24, u 25, u 26, u 27, u 28, u 29, u 30, u 31, u 32, u 33, u 34, u 35, u 36, u 37, u 38, u 39, u 40, u 41, u 42, u 43, u 44, u 45, u 46, u 47, u 48, u 49, u 50, u 51, u 52, u 53, u 54, u 55, u 56, u 57, u 58, u 59, u 60, u 61, u 62, u 63, u 64, u 65, u 66, u 67, u 68, u 69, u 70, u 71, u 72, u 73, u 74, u 75, u 76, u 77, u 78, u 79, u 80, u 81, u 82, u 83, u 84, u 85, u 86, u 87, u 88, u 89, u 90, u 91, u 92, u 93, .bool false, uv 95, uv 96, uv 97, uv 98, uv 99, uv 100, uv 101, uv 102, uv 103, uv 104, uv 105, uv 106, uv 107, uv 108, uv 109, uv 110, uv 111, uv 112, uv 113, uv 114, uv 115, uv 116, uv 117, uv 118, uv 119, uv 120, uv 121, uv 122, uv 123, uv 124, uv 125, uv 126, uv 127, uv 128, uv 129, uv 130, uv 131, uv 132, uv 133, uv 134, uv 135, uv 136, uv 137, uv 138, uv 139, uv 140, uv 141, undef, undef, undef, undef, undef, undef, undef, undef, undef, undef, undef, undef, undef, undef, undef, undef, undef, undef, undef, undef, undef, undef, undef, undef, undef, undef, undef, undef, undef, undef, undef, undef, undef, undef, undef, undef, undef, undef, undef, undef, undef, undef, undef, undef, undef, undef, undef, undef, undef, undef, undef, undef, undef, undef, undef, undef, undef, undef, undef, undef, undef, undef, undef, undef, undef, undef, undef, undef, undef, undef, undef, undef, undef, undef, undef, undef, undef, undef, undef, undef, undef, undef, undef, undef, undef, undef, undef, undef, undef, undef, undef, undef, undef, undef, undef, undef, undef, undef, undef, undef, undef, undef, undef, undef, undef, undef, undef, undef, undef, undef, undef, undef, undef, undef, undef, undef, undef, undef, undef, undef, undef, undef, undef, undef, undef, undef, undef, undef, undef, undef, undef, undef, undef, undef, undef, undef, undef, undef, undef, undef, undef, undef, undef, undef, undef, undef, undef, undef, undef, undef, undef, undef, undef, undef, undef, undef, undef, undef, undef, undef, undef, undef, undef, undef, undef, undef, undef, undef, undef, undef, undef, undef, undef, undef, undef, undef, undef, undef, undef, undef, undef, undef, undef, undef, undef, undef, undef, undef, undef, undef, undef, undef, undef, undef, undef, undef, undef, undef, undef, undef, undef, undef, undef, undef, undef, undef, undef, undef, undef, undef, undef, undef, undef, undef, undef, undef, undef, undef, undef, undef, undef, undef, undef, undef], []⟩) (fun _ => by as_aux_lemma => kernel_rfl) (by as_aux_lemma => kernel_rfl) (by as_aux_lemma => kernel_rfl) (by as_aux_lemma => kernel_rfl) (by as_aux_lemma => kernel_rfl) ?stv ?_
 case stv =>
  refine ⟨?_, ?_, ?_, ?_, ?_, ?_, ?_, ?_, ?_, ?_, ?_, ?_, ?_, ?_, ?_, ?_, ?_, ?_, ?_, ?_, ?_, ?_, ?_, ?_, ?_, ?_, ?_, ?_, ?_, ?_, ?_, ?_, ?_, ?_, ?_, ?_, ?_, ?_, ?_, ?_, ?_, ?_, ?_, ?_, ?_, ?_, ?_, trivial⟩
  skip
  ·as_aux_lemma =>
   refine Rg.stepR_free (.bool fl) (by rfl) (fun a hr => ?_) (by rw [hFv]; rfl)
   have z1 := Rg.read_old hr 1 (by kernel_rfl) (by kernel_rfl); have r1 : a.eval (.tmp 1) = .bool fl := z1; clear z1; generalize a.eval = ρ at *; clear hr; go_simp
  ·as_aux_lemma =>
   refine Rg.stepR_free (.bool fl) (by rfl) (fun a hr => ?_) (by rw [hFv]; rfl)
   have z95 := Rg.read_new hr 95 (by kernel_rfl) (by kernel_rfl); rw [hFv] at z95; have r95 : a.eval (.tmp 95) = .bool fl := z95; clear z95; generalize a.eval = ρ at *; clear hr; go_simp
  ·as_aux_lemma =>
   have hC := hC97v.out
   refine Rg.stepR_guarded (.pointer (some ⟨w.heap.size, 8, none⟩)) true fl 1 true 96 (by rfl) (by kernel_rfl) (by kernel_rfl) (by kernel_rfl) (fun x hx => by rw [hFv] at hx; exact hx) (fun hc a hr => ?_) (fun hc => ?_) (fun hc => ?_)
   ·have z2 := Rg.read_old hr 2 (by kernel_rfl) (by kernel_rfl); have r2 : a.eval (.tmp 2) = .pointer (some ⟨w.heap.size, 0, none⟩) := z2; clear z2; rw [← hC] at hc; clear hC; generalize a.eval = ρ at *; clear hr; go_simp
   ·rw [← hC] at hc; rw [hFv]; show _ = ite _ _ _; rw [if_pos hc]
   ·rw [← hC] at hc; rw [hFv]; show _ = ite _ _ _; rw [if_neg (by rw [hc]; decide)]
  ·as_aux_lemma =>
   have hC := hC97v.out
   refine Rg.stepR_guarded (.slice a3 h.ups.length c3) true fl 1 true 96 (by rfl) (by kernel_rfl) (by kernel_rfl) (by kernel_rfl) (fun x hx => by rw [hFv] at hx; exact hx) (fun hc a hr => ?_) (fun hc => ?_) (fun hc => ?_)
   ·have z97 := Rg.read_new hr 97 (by kernel_rfl) (by kernel_rfl); rw [hFv] at z97; have r97 : a.eval (.tmp 97) = if C97v = true then .pointer (some ⟨w.heap.size, 8, none⟩) else undef := z97; clear z97; rw [← hC] at hc; clear hC; rw [if_pos hc] at r97; generalize a.eval = ρ at *; clear hr; go_simp
   ·rw [← hC] at hc; rw [hFv]; show _ = ite _ _ _; rw [if_pos hc]
   ·rw [← hC] at hc; rw [hFv]; show _ = ite _ _ _; rw [if_neg (by rw [hc]; decide)]
  ·as_aux_lemma =>
   have hC := hC97v.out
   refine Rg.stepR_guarded (.int .i64 ((h.ups.length : Int))) true fl 1 true 96 (by rfl) (by kernel_rfl) (by kernel_rfl) (by kernel_rfl) (fun x hx => by rw [hFv] at hx; exact hx) (fun hc a hr => ?_) (fun hc => ?_) (fun hc => ?_)
   ·have z98 := Rg.read_new hr 98 (by kernel_rfl) (by kernel_rfl); rw [hFv] at z98; have r98 : a.eval (.tmp 98) = if C97v = true then .slice a3 h.ups.length c3 else undef := z98; clear z98; rw [← hC] at hc; clear hC; rw [if_pos hc] at r98; generalize a.eval = ρ at *; clear hr; go_simp
   ·rw [← hC] at hc; rw [hFv]; show _ = ite _ _ _; rw [if_pos hc]
   ·rw [← hC] at hc; rw [hFv]; show _ = ite _ _ _; rw [if_neg (by rw [hc]; decide)]
  ·as_aux_lemma =>
   have hC := hC97v.out
   refine Rg.stepR_guarded (.pointer (some ⟨w.heap.size, 9, none⟩)) true fl 1 true 96 (by rfl) (by kernel_rfl) (by kernel_rfl) (by kernel_rfl) (fun x hx => by rw [hFv] at hx; exact hx) (fun hc a hr => ?_) (fun hc => ?_) (fun hc => ?_)
   ·have z2 := Rg.read_old hr 2 (by kernel_rfl) (by kernel_rfl); have r2 : a.eval (.tmp 2) = .pointer (some ⟨w.heap.size, 0, none⟩) := z2; clear z2; rw [← hC] at hc; clear hC; generalize a.eval = ρ at *; clear hr; go_simp
   ·rw [← hC] at hc; rw [hFv]; show _ = ite _ _ _; rw [if_pos hc]
   ·rw [← hC] at hc; rw [hFv]; show _ = ite _ _ _; rw [if_neg (by rw [hc]; decide)]
  ·as_aux_lemma =>
   have hC := hC97v.out
   refine Rg.stepR_guarded (.slice a4 h.downs.length c4) true fl 1 true 96 (by rfl) (by kernel_rfl) (by kernel_rfl) (by kernel_rfl) (fun x hx => by rw [hFv] at hx; exact hx) (fun hc a hr => ?_) (fun hc => ?_) (fun hc => ?_)
   ·have z100 := Rg.read_new hr 100 (by kernel_rfl) (by kernel_rfl); rw [hFv] at z100; have r100 : a.eval (.tmp 100) = if C97v = true then .pointer (some ⟨w.heap.size, 9, none⟩) else undef := z100; clear z100; rw [← hC] at hc; clear hC; rw [if_pos hc] at r100; generalize a.eval = ρ at *; clear hr; go_simp
   ·rw [← hC] at hc; rw [hFv]; show _ = ite _ _ _; rw [if_pos hc]
   ·rw [← hC] at hc; rw [hFv]; show _ = ite _ _ _; rw [if_neg (by rw [hc]; decide)]
  ·as_aux_lemma =>
   have hC := hC97v.out
   refine Rg.stepR_guarded (.int .i64 ((h.downs.length : Int))) true fl 1 true 96 (by rfl) (by kernel_rfl) (by kernel_rfl) (by kernel_rfl) (fun x hx => by rw [hFv] at hx; exact hx) (fun hc a hr => ?_) (fun hc => ?_) (fun hc => ?_)
   ·have z101 := Rg.read_new hr 101 (by kernel_rfl) (by kernel_rfl); rw [hFv] at z101; have r101 : a.eval (.tmp 101) = if C97v = true then .slice a4 h.downs.length c4 else undef := z101; clear z101; rw [← hC] at hc; clear hC; rw [if_pos hc] at r101; generalize a.eval = ρ at *; clear hr; go_simp
   ·rw [← hC] at hc; rw [hFv]; show _ = ite _ _ _; rw [if_pos hc]
   ·rw [← hC] at hc; rw [hFv]; show _ = ite _ _ _; rw [if_neg (by rw [hc]; decide)]
  ·as_aux_lemma =>
   have hC := hC97v.out
   refine Rg.stepR_guarded (.int .i64 ((h.ups.length : Int) + (h.downs.length : Int))) true fl 1 true 96 (by rfl) (by kernel_rfl) (by kernel_rfl) (by kernel_rfl) (fun x hx => by rw [hFv] at hx; exact hx) (fun hc a hr => ?_) (fun hc => ?_) (fun hc => ?_)
   ·have z99 := Rg.read_new hr 99 (by kernel_rfl) (by kernel_rfl); rw [hFv] at z99; have r99 : a.eval (.tmp 99) = if C97v = true then .int .i64 ((h.ups.length : Int)) else undef := z99; clear z99; have z102 := Rg.read_new hr 102 (by kernel_rfl) (by kernel_rfl); rw [hFv] at z102; have r102 : a.eval (.tmp 102) = if C97v = true then .int .i64 ((h.downs.length : Int)) else undef := z102; clear z102; rw [← hC] at hc; clear hC; rw [if_pos hc] at r99; rw [if_pos hc] at r102; generalize a.eval = ρ at *; clear hr; go_simp
   ·rw [← hC] at hc; rw [hFv]; show _ = ite _ _ _; rw [if_pos hc]
   ·rw [← hC] at hc; rw [hFv]; show _ = ite _ _ _; rw [if_neg (by rw [hc]; decide)]
  ·as_aux_lemma =>
   have hC := hC97v.out
   refine Rg.stepR_guarded (.bool B104v) true fl 1 true 96 (by rfl) (by kernel_rfl) (by kernel_rfl) (by kernel_rfl) (fun x hx => by rw [hFv] at hx; exact hx) (fun hc a hr => ?_) (fun hc => ?_) (fun hc => ?_)
   ·have z103 := Rg.read_new hr 103 (by kernel_rfl) (by kernel_rfl); rw [hFv] at z103; have r103 : a.eval (.tmp 103) = if C97v = true then .int .i64 ((h.ups.length : Int) + (h.downs.length : Int)) else undef := z103; clear z103; rw [← hC] at hc; clear hC; rw [if_pos hc] at r103; have rc : ∀ v, a.eval (.const v) = v := fun _ => rfl; rw [show B104v = _ from hB104v.out]; generalize a.eval = ρ at *; clear hr; go_simp
   ·rw [← hC] at hc; rw [hFv]; show _ = ite _ _ _; rw [if_pos hc]
   ·rw [← hC] at hc; rw [hFv]; show _ = ite _ _ _; rw [if_neg (by rw [hc]; decide)]
  ·as_aux_lemma =>
   have hC := hC97v.out
   refine Rg.stepR_guarded (.bool B104v) true fl 1 true 96 (by rfl) (by kernel_rfl) (by kernel_rfl) (by kernel_rfl) (fun x hx => by rw [hFv] at hx; exact hx) (fun hc a hr => ?_) (fun hc => ?_) (fun hc => ?_)
   ·have z104 := Rg.read_new hr 104 (by kernel_rfl) (by kernel_rfl); rw [hFv] at z104; have r104 : a.eval (.tmp 104) = if C97v = true then .bool B104v else undef := z104; clear z104; rw [← hC] at hc; clear hC; rw [if_pos hc] at r104; generalize a.eval = ρ at *; clear hr; go_simp
   ·rw [← hC] at hc; rw [hFv]; show _ = ite _ _ _; rw [if_pos hc]
   ·rw [← hC] at hc; rw [hFv]; show _ = ite _ _ _; rw [if_neg (by rw [hc]; decide)]
  ·as_aux_lemma =>
   have hC := hC106v.out
   refine Rg.stepR_guarded (.pointer (some ⟨w.heap.size, 5, none⟩)) C97v B104v 10 false 105 (by rfl) (by kernel_rfl) (by kernel_rfl) (by kernel_rfl) (fun x hx => by rw [hFv] at hx; exact hx) (fun hc a hr => ?_) (fun hc => ?_) (fun hc => ?_)
   ·have z2 := Rg.read_old hr 2 (by kernel_rfl) (by kernel_rfl); have r2 : a.eval (.tmp 2) = .pointer (some ⟨w.heap.size, 0, none⟩) := z2; clear z2; rw [← hC] at hc; clear hC; generalize a.eval = ρ at *; clear hr; go_simp
   ·rw [← hC] at hc; rw [hFv]; show _ = ite _ _ _; rw [if_pos hc]
   ·rw [← hC] at hc; rw [hFv]; show _ = ite _ _ _; rw [if_neg (by rw [hc]; decide)]
  ·as_aux_lemma =>
   have hC := hC106v.out
   refine Rg.stepR_guarded (.int .u64 ((h.cnt : Int))) C97v B104v 10 false 105 (by rfl) (by kernel_rfl) (by kernel_rfl) (by kernel_rfl) (fun x hx => by rw [hFv] at hx; exact hx) (fun hc a hr => ?_) (fun hc => ?_) (fun hc => ?_)
   ·have z106 := Rg.read_new hr 106 (by kernel_rfl) (by kernel_rfl); rw [hFv] at z106; have r106 : a.eval (.tmp 106) = if C106v = true then .pointer (some ⟨w.heap.size, 5, none⟩) else undef := z106; clear z106; rw [← hC] at hc; clear hC; rw [if_pos hc] at r106; generalize a.eval = ρ at *; clear hr; go_simp
   ·rw [← hC] at hc; rw [hFv]; show _ = ite _ _ _; rw [if_pos hc]
   ·rw [← hC] at hc; rw [hFv]; show _ = ite _ _ _; rw [if_neg (by rw [hc]; decide)]
  ·as_aux_lemma =>
   have hC := hC106v.out
   refine Rg.stepR_guarded_wp (.bool B108v) C97v B104v 10 false 105 (by rfl) (by kernel_rfl) (by kernel_rfl) (by kernel_rfl) (fun x hx => by rw [hFv] at hx; exact hx) (fun hc a hr => ?_) (fun hc => ?_) (fun hc => ?_)
   ·have z107 := Rg.read_new hr 107 (by kernel_rfl) (by kernel_rfl); rw [hFv] at z107; have r107 : a.eval (.tmp 107) = if C106v = true then .int .u64 ((h.cnt : Int)) else undef := z107; clear z107; rw [← hC] at hc; clear hC; rw [if_pos hc] at r107; rw [show B108v = _ from hB108v.out]; intro K Q hK; have rf : a.eval (.func 35) = .func (.func 35) #[] #[] := rfl; unfold Oper.wp; generalize hx : a.eval = ρ at *; clear hr; go_simp; refine (plain_any _ _).mono ?_; rintro e w' ⟨rfl, rfl⟩; exact hK
   ·rw [← hC] at hc; rw [hFv]; show _ = ite _ _ _; rw [if_pos hc]
   ·rw [← hC] at hc; rw [hFv]; show _ = ite _ _ _; rw [if_neg (by rw [hc]; decide)]
  ·as_aux_lemma =>
   have hC := hC106v.out
   refine Rg.stepR_guarded (.bool B109v) C97v B104v 10 false 105 (by rfl) (by kernel_rfl) (by kernel_rfl) (by kernel_rfl) (fun x hx => by rw [hFv] at hx; exact hx) (fun hc a hr => ?_) (fun hc => ?_) (fun hc => ?_)
   ·have z108 := Rg.read_new hr 108 (by kernel_rfl) (by kernel_rfl); rw [hFv] at z108; have r108 : a.eval (.tmp 108) = if C106v = true then .bool B108v else undef := z108; clear z108; rw [← hC] at hc; clear hC; rw [if_pos hc] at r108; rw [show B109v = _ from hB109v.out]; generalize a.eval = ρ at *; clear hr; go_simp
   ·rw [← hC] at hc; rw [hFv]; show _ = ite _ _ _; rw [if_pos hc]
   ·rw [← hC] at hc; rw [hFv]; show _ = ite _ _ _; rw [if_neg (by rw [hc]; decide)]
  ·as_aux_lemma =>
   have hC := hC97v.out
   refine Rg.stepR_guarded (.bool B110v) true fl 1 true 96 (by rfl) (by kernel_rfl) (by kernel_rfl) (by kernel_rfl) (fun x hx => by rw [hFv] at hx; exact hx) (fun hc a hr => ?_) (fun hc => ?_) (fun hc => ?_)
   ·have z105 := Rg.read_new hr 105 (by kernel_rfl) (by kernel_rfl); rw [hFv] at z105; have r105 : a.eval (.tmp 105) = if C97v = true then .bool B104v else undef := z105; clear z105; have z109 := Rg.read_new hr 109 (by kernel_rfl) (by kernel_rfl); rw [hFv] at z109; have r109 : a.eval (.tmp 109) = if C106v = true then .bool B109v else undef := z109; clear z109; rw [← hC] at hc; clear hC; rw [if_pos hc] at r105; have rc : ∀ v, a.eval (.const v) = v := fun _ => rfl; rw [show B110v = _ from hB110v.out]; have e109 := hC106v.out; rw [hc] at e109; clear hr; generalize a.eval = ρ at *; cases B104v <;> simp [e109] at r109 <;> (simp [r105, r109, rc, go_sem, execOp])
   ·rw [← hC] at hc; rw [hFv]; show _ = ite _ _ _; rw [if_pos hc]
   ·rw [← hC] at hc; rw [hFv]; show _ = ite _ _ _; rw [if_neg (by rw [hc]; decide)]
  ·as_aux_lemma =>
   have hC := hC97v.out
   refine Rg.stepR_guarded (.bool B110v) true fl 1 true 96 (by rfl) (by kernel_rfl) (by kernel_rfl) (by kernel_rfl) (fun x hx => by rw [hFv] at hx; exact hx) (fun hc a hr => ?_) (fun hc => ?_) (fun hc => ?_)
   ·have z110 := Rg.read_new hr 110 (by kernel_rfl) (by kernel_rfl); rw [hFv] at z110; have r110 : a.eval (.tmp 110) = if C97v = true then .bool B110v else undef := z110; clear z110; rw [← hC] at hc; clear hC; rw [if_pos hc] at r110; generalize a.eval = ρ at *; clear hr; go_simp
   ·rw [← hC] at hc; rw [hFv]; show _ = ite _ _ _; rw [if_pos hc]
   ·rw [← hC] at hc; rw [hFv]; show _ = ite _ _ _; rw [if_neg (by rw [hc]; decide)]
  ·as_aux_lemma =>
   have hC := hC112v.out
   refine Rg.stepR_guarded (.pointer (some ⟨w.heap.size, 4, none⟩)) C97v B110v 16 false 111 (by rfl) (by kernel_rfl) (by kernel_rfl) (by kernel_rfl) (fun x hx => by rw [hFv] at hx; exact hx) (fun hc a hr => ?_) (fun hc => ?_) (fun hc => ?_)
   ·have z2 := Rg.read_old hr 2 (by kernel_rfl) (by kernel_rfl); have r2 : a.eval (.tmp 2) = .pointer (some ⟨w.heap.size, 0, none⟩) := z2; clear z2; rw [← hC] at hc; clear hC; generalize a.eval = ρ at *; clear hr; go_simp
   ·rw [← hC] at hc; rw [hFv]; show _ = ite _ _ _; rw [if_pos hc]
   ·rw [← hC] at hc; rw [hFv]; show _ = ite _ _ _; rw [if_neg (by rw [hc]; decide)]
  ·as_aux_lemma =>
   have hC := hC112v.out
   refine Rg.stepR_guarded (.int .u64 ((h.zc : Int))) C97v B110v 16 false 111 (by rfl) (by kernel_rfl) (by kernel_rfl) (by kernel_rfl) (fun x hx => by rw [hFv] at hx; exact hx) (fun hc a hr => ?_) (fun hc => ?_) (fun hc => ?_)
   ·have z112 := Rg.read_new hr 112 (by kernel_rfl) (by kernel_rfl); rw [hFv] at z112; have r112 : a.eval (.tmp 112) = if C112v = true then .pointer (some ⟨w.heap.size, 4, none⟩) else undef := z112; clear z112; rw [← hC] at hc; clear hC; rw [if_pos hc] at r112; generalize a.eval = ρ at *; clear hr; go_simp
   ·rw [← hC] at hc; rw [hFv]; show _ = ite _ _ _; rw [if_pos hc]
   ·rw [← hC] at hc; rw [hFv]; show _ = ite _ _ _; rw [if_neg (by rw [hc]; decide)]
  ·as_aux_lemma =>
   have hC := hC112v.out
   refine Rg.stepR_guarded_wp (.bool B114v) C97v B110v 16 false 111 (by rfl) (by kernel_rfl) (by kernel_rfl) (by kernel_rfl) (fun x hx => by rw [hFv] at hx; exact hx) (fun hc a hr => ?_) (fun hc => ?_) (fun hc => ?_)
   ·have z113 := Rg.read_new hr 113 (by kernel_rfl) (by kernel_rfl); rw [hFv] at z113; have r113 : a.eval (.tmp 113) = if C112v = true then .int .u64 ((h.zc : Int)) else undef := z113; clear z113; rw [← hC] at hc; clear hC; rw [if_pos hc] at r113; rw [show B114v = _ from hB114v.out]; intro K Q hK; have rf : a.eval (.func 35) = .func (.func 35) #[] #[] := rfl; unfold Oper.wp; generalize hx : a.eval = ρ at *; clear hr; go_simp; refine (plain_any _ _).mono ?_; rintro e w' ⟨rfl, rfl⟩; exact hK
   ·rw [← hC] at hc; rw [hFv]; show _ = ite _ _ _; rw [if_pos hc]
   ·rw [← hC] at hc; rw [hFv]; show _ = ite _ _ _; rw [if_neg (by rw [hc]; decide)]
  ·as_aux_lemma =>
   have hC := hC112v.out
   refine Rg.stepR_guarded (.bool B115v) C97v B110v 16 false 111 (by rfl) (by kernel_rfl) (by kernel_rfl) (by kernel_rfl) (fun x hx => by rw [hFv] at hx; exact hx) (fun hc a hr => ?_) (fun hc => ?_) (fun hc => ?_)
   ·have z114 := Rg.read_new hr 114 (by kernel_rfl) (by kernel_rfl); rw [hFv] at z114; have r114 : a.eval (.tmp 114) = if C112v = true then .bool B114v else undef := z114; clear z114; rw [← hC] at hc; clear hC; rw [if_pos hc] at r114; rw [show B115v = _ from hB115v.out]; generalize a.eval = ρ at *; clear hr; go_simp
   ·rw [← hC] at hc; rw [hFv]; show _ = ite _ _ _; rw [if_pos hc]
   ·rw [← hC] at hc; rw [hFv]; show _ = ite _ _ _; rw [if_neg (by rw [hc]; decide)]
  ·as_aux_lemma =>
   have hC := hC97v.out
   refine Rg.stepR_guarded (.bool B116v) true fl 1 true 96 (by rfl) (by kernel_rfl) (by kernel_rfl) (by kernel_rfl) (fun x hx => by rw [hFv] at hx; exact hx) (fun hc a hr => ?_) (fun hc => ?_) (fun hc => ?_)
   ·have z111 := Rg.read_new hr 111 (by kernel_rfl) (by kernel_rfl); rw [hFv] at z111; have r111 : a.eval (.tmp 111) = if C97v = true then .bool B110v else undef := z111; clear z111; have z115 := Rg.read_new hr 115 (by kernel_rfl) (by kernel_rfl); rw [hFv] at z115; have r115 : a.eval (.tmp 115) = if C112v = true then .bool B115v else undef := z115; clear z115; rw [← hC] at hc; clear hC; rw [if_pos hc] at r111; have rc : ∀ v, a.eval (.const v) = v := fun _ => rfl; rw [show B116v = _ from hB116v.out]; have e115 := hC112v.out; rw [hc] at e115; clear hr; generalize a.eval = ρ at *; cases B110v <;> simp [e115] at r115 <;> (simp [r111, r115, rc, go_sem, execOp])
   ·rw [← hC] at hc; rw [hFv]; show _ = ite _ _ _; rw [if_pos hc]
   ·rw [← hC] at hc; rw [hFv]; show _ = ite _ _ _; rw [if_neg (by rw [hc]; decide)]
  ·as_aux_lemma =>
   refine Rg.stepR_free (.bool B117v) (by rfl) (fun a hr => ?_) (by rw [hFv]; rfl)
   have z96 := Rg.read_new hr 96 (by kernel_rfl) (by kernel_rfl); rw [hFv] at z96; have r96 : a.eval (.tmp 96) = .bool fl := z96; clear z96; have z116 := Rg.read_new hr 116 (by kernel_rfl) (by kernel_rfl); rw [hFv] at z116; have r116 : a.eval (.tmp 116) = if C97v = true then .bool B116v else undef := z116; clear z116; have rc : ∀ v, a.eval (.const v) = v := fun _ => rfl; rw [show B117v = _ from hB117v.out]; have e116 := hC97v.out; clear hr; generalize a.eval = ρ at *; cases fl <;> simp [e116] at r116 <;> (simp [r96, r116, rc, go_sem, execOp])
  ·as_aux_lemma =>
   refine Rg.stepR_free (.bool B117v) (by rfl) (fun a hr => ?_) (by rw [hFv]; rfl)
   have z117 := Rg.read_new hr 117 (by kernel_rfl) (by kernel_rfl); rw [hFv] at z117; have r117 : a.eval (.tmp 117) = .bool B117v := z117; clear z117; generalize a.eval = ρ at *; clear hr; go_simp
  ·as_aux_lemma =>
   have hC := hC119v.out
   refine Rg.stepR_guarded (.bool fl) true B117v 23 false 118 (by rfl) (by kernel_rfl) (by kernel_rfl) (by kernel_rfl) (fun x hx => by rw [hFv] at hx; exact hx) (fun hc a hr => ?_) (fun hc => ?_) (fun hc => ?_)
   ·have z1 := Rg.read_old hr 1 (by kernel_rfl) (by kernel_rfl); have r1 : a.eval (.tmp 1) = .bool fl := z1; clear z1; rw [← hC] at hc; clear hC; generalize a.eval = ρ at *; clear hr; go_simp
   ·rw [← hC] at hc; rw [hFv]; show _ = ite _ _ _; rw [if_pos hc]
   ·rw [← hC] at hc; rw [hFv]; show _ = ite _ _ _; rw [if_neg (by rw [hc]; decide)]
  ·as_aux_lemma =>
   have hC := hC119v.out
   refine Rg.stepR_guarded (.bool B120v) true B117v 23 false 118 (by rfl) (by kernel_rfl) (by kernel_rfl) (by kernel_rfl) (fun x hx => by rw [hFv] at hx; exact hx) (fun hc a hr => ?_) (fun hc => ?_) (fun hc => ?_)
   ·have z119 := Rg.read_new hr 119 (by kernel_rfl) (by kernel_rfl); rw [hFv] at z119; have r119 : a.eval (.tmp 119) = if C119v = true then .bool fl else undef := z119; clear z119; rw [← hC] at hc; clear hC; rw [if_pos hc] at r119; rw [show B120v = _ from hB120v.out]; generalize a.eval = ρ at *; clear hr; go_simp
   ·rw [← hC] at hc; rw [hFv]; show _ = ite _ _ _; rw [if_pos hc]
   ·rw [← hC] at hc; rw [hFv]; show _ = ite _ _ _; rw [if_neg (by rw [hc]; decide)]
  ·as_aux_lemma =>
   have hC := hC119v.out
   refine Rg.stepR_guarded (.bool B120v) true B117v 23 false 118 (by rfl) (by kernel_rfl) (by kernel_rfl) (by kernel_rfl) (fun x hx => by rw [hFv] at hx; exact hx) (fun hc a hr => ?_) (fun hc => ?_) (fun hc => ?_)
   ·have z120 := Rg.read_new hr 120 (by kernel_rfl) (by kernel_rfl); rw [hFv] at z120; have r120 : a.eval (.tmp 120) = if C119v = true then .bool B120v else undef := z120; clear z120; rw [← hC] at hc; clear hC; rw [if_pos hc] at r120; generalize a.eval = ρ at *; clear hr; go_simp
   ·rw [← hC] at hc; rw [hFv]; show _ = ite _ _ _; rw [if_pos hc]
   ·rw [← hC] at hc; rw [hFv]; show _ = ite _ _ _; rw [if_neg (by rw [hc]; decide)]
  ·as_aux_lemma =>
   have hC := hC122v.out
   refine Rg.stepR_guarded (.pointer (some ⟨w.heap.size, 10, none⟩)) C119v B120v 26 true 121 (by rfl) (by kernel_rfl) (by kernel_rfl) (by kernel_rfl) (fun x hx => by rw [hFv] at hx; exact hx) (fun hc a hr => ?_) (fun hc => ?_) (fun hc => ?_)
   ·have z2 := Rg.read_old hr 2 (by kernel_rfl) (by kernel_rfl); have r2 : a.eval (.tmp 2) = .pointer (some ⟨w.heap.size, 0, none⟩) := z2; clear z2; rw [← hC] at hc; clear hC; generalize a.eval = ρ at *; clear hr; go_simp
   ·rw [← hC] at hc; rw [hFv]; show _ = ite _ _ _; rw [if_pos hc]
   ·rw [← hC] at hc; rw [hFv]; show _ = ite _ _ _; rw [if_neg (by rw [hc]; decide)]
  ·as_aux_lemma =>
   have hC := hC122v.out
   refine Rg.stepR_guarded (.slice a5 h.fups.length c5) C119v B120v 26 true 121 (by rfl) (by kernel_rfl) (by kernel_rfl) (by kernel_rfl) (fun x hx => by rw [hFv] at hx; exact hx) (fun hc a hr => ?_) (fun hc => ?_) (fun hc => ?_)
   ·have z122 := Rg.read_new hr 122 (by kernel_rfl) (by kernel_rfl); rw [hFv] at z122; have r122 : a.eval (.tmp 122) = if C122v = true then .pointer (some ⟨w.heap.size, 10, none⟩) else undef := z122; clear z122; rw [← hC] at hc; clear hC; rw [if_pos hc] at r122; generalize a.eval = ρ at *; clear hr; go_simp
   ·rw [← hC] at hc; rw [hFv]; show _ = ite _ _ _; rw [if_pos hc]
   ·rw [← hC] at hc; rw [hFv]; show _ = ite _ _ _; rw [if_neg (by rw [hc]; decide)]
  ·as_aux_lemma =>
   have hC := hC122v.out
   refine Rg.stepR_guarded (.int .i64 ((h.fups.length : Int))) C119v B120v 26 true 121 (by rfl) (by kernel_rfl) (by kernel_rfl) (by kernel_rfl) (fun x hx => by rw [hFv] at hx; exact hx) (fun hc a hr => ?_) (fun hc => ?_) (fun hc => ?_)
   ·have z123 := Rg.read_new hr 123 (by kernel_rfl) (by kernel_rfl); rw [hFv] at z123; have r123 : a.eval (.tmp 123) = if C122v = true then .slice a5 h.fups.length c5 else undef := z123; clear z123; rw [← hC] at hc; clear hC; rw [if_pos hc] at r123; generalize a.eval = ρ at *; clear hr; go_simp
   ·rw [← hC] at hc; rw [hFv]; show _ = ite _ _ _; rw [if_pos hc]
   ·rw [← hC] at hc; rw [hFv]; show _ = ite _ _ _; rw [if_neg (by rw [hc]; decide)]
  ·as_aux_lemma =>
   have hC := hC122v.out
   refine Rg.stepR_guarded (.pointer (some ⟨w.heap.size, 11, none⟩)) C119v B120v 26 true 121 (by rfl) (by kernel_rfl) (by kernel_rfl) (by kernel_rfl) (fun x hx => by rw [hFv] at hx; exact hx) (fun hc a hr => ?_) (fun hc => ?_) (fun hc => ?_)
   ·have z2 := Rg.read_old hr 2 (by kernel_rfl) (by kernel_rfl); have r2 : a.eval (.tmp 2) = .pointer (some ⟨w.heap.size, 0, none⟩) := z2; clear z2; rw [← hC] at hc; clear hC; generalize a.eval = ρ at *; clear hr; go_simp
   ·rw [← hC] at hc; rw [hFv]; show _ = ite _ _ _; rw [if_pos hc]
   ·rw [← hC] at hc; rw [hFv]; show _ = ite _ _ _; rw [if_neg (by rw [hc]; decide)]
  ·as_aux_lemma =>
   have hC := hC122v.out
   refine Rg.stepR_guarded (.slice a6 h.fdowns.length c6) C119v B120v 26 true 121 (by rfl) (by kernel_rfl) (by kernel_rfl) (by kernel_rfl) (fun x hx => by rw [hFv] at hx; exact hx) (fun hc a hr => ?_) (fun hc => ?_) (fun hc => ?_)
   ·have z125 := Rg.read_new hr 125 (by kernel_rfl) (by kernel_rfl); rw [hFv] at z125; have r125 : a.eval (.tmp 125) = if C122v = true then .pointer (some ⟨w.heap.size, 11, none⟩) else undef := z125; clear z125; rw [← hC] at hc; clear hC; rw [if_pos hc] at r125; generalize a.eval = ρ at *; clear hr; go_simp
   ·rw [← hC] at hc; rw [hFv]; show _ = ite _ _ _; rw [if_pos hc]
   ·rw [← hC] at hc; rw [hFv]; show _ = ite _ _ _; rw [if_neg (by rw [hc]; decide)]
  ·as_aux_lemma =>
   have hC := hC122v.out
   refine Rg.stepR_guarded (.int .i64 ((h.fdowns.length : Int))) C119v B120v 26 true 121 (by rfl) (by kernel_rfl) (by kernel_rfl) (by kernel_rfl) (fun x hx => by rw [hFv] at hx; exact hx) (fun hc a hr => ?_) (fun hc => ?_) (fun hc => ?_)
   ·have z126 := Rg.read_new hr 126 (by kernel_rfl) (by kernel_rfl); rw [hFv] at z126; have r126 : a.eval (.tmp 126) = if C122v = true then .slice a6 h.fdowns.length c6 else undef := z126; clear z126; rw [← hC] at hc; clear hC; rw [if_pos hc] at r126; generalize a.eval = ρ at *; clear hr; go_simp
   ·rw [← hC] at hc; rw [hFv]; show _ = ite _ _ _; rw [if_pos hc]
   ·rw [← hC] at hc; rw [hFv]; show _ = ite _ _ _; rw [if_neg (by rw [hc]; decide)]
  ·as_aux_lemma =>
   have hC := hC122v.out
   refine Rg.stepR_guarded (.int .i64 ((h.fups.length : Int) + (h.fdowns.length : Int))) C119v B120v 26 true 121 (by rfl) (by kernel_rfl) (by kernel_rfl) (by kernel_rfl) (fun x hx => by rw [hFv] at hx; exact hx) (fun hc a hr => ?_) (fun hc => ?_) (fun hc => ?_)
   ·have z124 := Rg.read_new hr 124 (by kernel_rfl) (by kernel_rfl); rw [hFv] at z124; have r124 : a.eval (.tmp 124) = if C122v = true then .int .i64 ((h.fups.length : Int)) else undef := z124; clear z124; have z127 := Rg.read_new hr 127 (by kernel_rfl) (by kernel_rfl); rw [hFv] at z127; have r127 : a.eval (.tmp 127) = if C122v = true then .int .i64 ((h.fdowns.length : Int)) else undef := z127; clear z127; rw [← hC] at hc; clear hC; rw [if_pos hc] at r124; rw [if_pos hc] at r127; generalize a.eval = ρ at *; clear hr; go_simp
   ·rw [← hC] at hc; rw [hFv]; show _ = ite _ _ _; rw [if_pos hc]
   ·rw [← hC] at hc; rw [hFv]; show _ = ite _ _ _; rw [if_neg (by rw [hc]; decide)]
  ·as_aux_lemma =>
   have hC := hC122v.out
   refine Rg.stepR_guarded (.bool B129v) C119v B120v 26 true 121 (by rfl) (by kernel_rfl) (by kernel_rfl) (by kernel_rfl) (fun x hx => by rw [hFv] at hx; exact hx) (fun hc a hr => ?_) (fun hc => ?_) (fun hc => ?_)
   ·have z128 := Rg.read_new hr 128 (by kernel_rfl) (by kernel_rfl); rw [hFv] at z128; have r128 : a.eval (.tmp 128) = if C122v = true then .int .i64 ((h.fups.length : Int) + (h.fdowns.length : Int)) else undef := z128; clear z128; rw [← hC] at hc; clear hC; rw [if_pos hc] at r128; have rc : ∀ v, a.eval (.const v) = v := fun _ => rfl; rw [show B129v = _ from hB129v.out]; generalize a.eval = ρ at *; clear hr; go_simp
   ·rw [← hC] at hc; rw [hFv]; show _ = ite _ _ _; rw [if_pos hc]
   ·rw [← hC] at hc; rw [hFv]; show _ = ite _ _ _; rw [if_neg (by rw [hc]; decide)]
  ·as_aux_lemma =>
   have hC := hC122v.out
   refine Rg.stepR_guarded (.bool B129v) C119v B120v 26 true 121 (by rfl) (by kernel_rfl) (by kernel_rfl) (by kernel_rfl) (fun x hx => by rw [hFv] at hx; exact hx) (fun hc a hr => ?_) (fun hc => ?_) (fun hc => ?_)
   ·have z129 := Rg.read_new hr 129 (by kernel_rfl) (by kernel_rfl); rw [hFv] at z129; have r129 : a.eval (.tmp 129) = if C122v = true then .bool B129v else undef := z129; clear z129; rw [← hC] at hc; clear hC; rw [if_pos hc] at r129; generalize a.eval = ρ at *; clear hr; go_simp
   ·rw [← hC] at hc; rw [hFv]; show _ = ite _ _ _; rw [if_pos hc]
   ·rw [← hC] at hc; rw [hFv]; show _ = ite _ _ _; rw [if_neg (by rw [hc]; decide)]
  ·as_aux_lemma =>
   have hC := hC131v.out
   refine Rg.stepR_guarded (.pointer (some ⟨w.heap.size, 5, none⟩)) C122v B129v 35 false 130 (by rfl) (by kernel_rfl) (by kernel_rfl) (by kernel_rfl) (fun x hx => by rw [hFv] at hx; exact hx) (fun hc a hr => ?_) (fun hc => ?_) (fun hc => ?_)
   ·have z2 := Rg.read_old hr 2 (by kernel_rfl) (by kernel_rfl); have r2 : a.eval (.tmp 2) = .pointer (some ⟨w.heap.size, 0, none⟩) := z2; clear z2; rw [← hC] at hc; clear hC; generalize a.eval = ρ at *; clear hr; go_simp
   ·rw [← hC] at hc; rw [hFv]; show _ = ite _ _ _; rw [if_pos hc]
   ·rw [← hC] at hc; rw [hFv]; show _ = ite _ _ _; rw [if_neg (by rw [hc]; decide)]
  ·as_aux_lemma =>
   have hC := hC131v.out
   refine Rg.stepR_guarded (.int .u64 ((h.cnt : Int))) C122v B129v 35 false 130 (by rfl) (by kernel_rfl) (by kernel_rfl) (by kernel_rfl) (fun x hx => by rw [hFv] at hx; exact hx) (fun hc a hr => ?_) (fun hc => ?_) (fun hc => ?_)
   ·have z131 := Rg.read_new hr 131 (by kernel_rfl) (by kernel_rfl); rw [hFv] at z131; have r131 : a.eval (.tmp 131) = if C131v = true then .pointer (some ⟨w.heap.size, 5, none⟩) else undef := z131; clear z131; rw [← hC] at hc; clear hC; rw [if_pos hc] at r131; generalize a.eval = ρ at *; clear hr; go_simp
   ·rw [← hC] at hc; rw [hFv]; show _ = ite _ _ _; rw [if_pos hc]
   ·rw [← hC] at hc; rw [hFv]; show _ = ite _ _ _; rw [if_neg (by rw [hc]; decide)]
  ·as_aux_lemma =>
   have hC := hC131v.out
   refine Rg.stepR_guarded (.bool B133v) C122v B129v 35 false 130 (by rfl) (by kernel_rfl) (by kernel_rfl) (by kernel_rfl) (fun x hx => by rw [hFv] at hx; exact hx) (fun hc a hr => ?_) (fun hc => ?_) (fun hc => ?_)
   ·have z132 := Rg.read_new hr 132 (by kernel_rfl) (by kernel_rfl); rw [hFv] at z132; have r132 : a.eval (.tmp 132) = if C131v = true then .int .u64 ((h.cnt : Int)) else undef := z132; clear z132; rw [← hC] at hc; clear hC; rw [if_pos hc] at r132; have rc : ∀ v, a.eval (.const v) = v := fun _ => rfl; rw [show B133v = _ from hB133v.out]; generalize a.eval = ρ at *; clear hr; go_simp
   ·rw [← hC] at hc; rw [hFv]; show _ = ite _ _ _; rw [if_pos hc]
   ·rw [← hC] at hc; rw [hFv]; show _ = ite _ _ _; rw [if_neg (by rw [hc]; decide)]
  ·as_aux_lemma =>
   have hC := hC122v.out
   refine Rg.stepR_guarded (.bool B134v) C119v B120v 26 true 121 (by rfl) (by kernel_rfl) (by kernel_rfl) (by kernel_rfl) (fun x hx => by rw [hFv] at hx; exact hx) (fun hc a hr => ?_) (fun hc => ?_) (fun hc => ?_)
   ·have z130 := Rg.read_new hr 130 (by kernel_rfl) (by kernel_rfl); rw [hFv] at z130; have r130 : a.eval (.tmp 130) = if C122v = true then .bool B129v else undef := z130; clear z130; have z133 := Rg.read_new hr 133 (by kernel_rfl) (by kernel_rfl); rw [hFv] at z133; have r133 : a.eval (.tmp 133) = if C131v = true then .bool B133v else undef := z133; clear z133; rw [← hC] at hc; clear hC; rw [if_pos hc] at r130; have rc : ∀ v, a.eval (.const v) = v := fun _ => rfl; rw [show B134v = _ from hB134v.out]; have e133 := hC131v.out; rw [hc] at e133; clear hr; generalize a.eval = ρ at *; cases B129v <;> simp [e133] at r133 <;> (simp [r130, r133, rc, go_sem, execOp])
   ·rw [← hC] at hc; rw [hFv]; show _ = ite _ _ _; rw [if_pos hc]
   ·rw [← hC] at hc; rw [hFv]; show _ = ite _ _ _; rw [if_neg (by rw [hc]; decide)]
  ·as_aux_lemma =>
   have hC := hC122v.out
   refine Rg.stepR_guarded (.bool B134v) C119v B120v 26 true 121 (by rfl) (by kernel_rfl) (by kernel_rfl) (by kernel_rfl) (fun x hx => by rw [hFv] at hx; exact hx) (fun hc a hr => ?_) (fun hc => ?_) (fun hc => ?_)
   ·have z134 := Rg.read_new hr 134 (by kernel_rfl) (by kernel_rfl); rw [hFv] at z134; have r134 : a.eval (.tmp 134) = if C122v = true then .bool B134v else undef := z134; clear z134; rw [← hC] at hc; clear hC; rw [if_pos hc] at r134; generalize a.eval = ρ at *; clear hr; go_simp
   ·rw [← hC] at hc; rw [hFv]; show _ = ite _ _ _; rw [if_pos hc]
   ·rw [← hC] at hc; rw [hFv]; show _ = ite _ _ _; rw [if_neg (by rw [hc]; decide)]
  ·as_aux_lemma =>
   have hC := hC136v.out
   refine Rg.stepR_guarded (.pointer (some ⟨w.heap.size, 4, none⟩)) C122v B134v 40 false 135 (by rfl) (by kernel_rfl) (by kernel_rfl) (by kernel_rfl) (fun x hx => by rw [hFv] at hx; exact hx) (fun hc a hr => ?_) (fun hc => ?_) (fun hc => ?_)
   ·have z2 := Rg.read_old hr 2 (by kernel_rfl) (by kernel_rfl); have r2 : a.eval (.tmp 2) = .pointer (some ⟨w.heap.size, 0, none⟩) := z2; clear z2; rw [← hC] at hc; clear hC; generalize a.eval = ρ at *; clear hr; go_simp
   ·rw [← hC] at hc; rw [hFv]; show _ = ite _ _ _; rw [if_pos hc]
   ·rw [← hC] at hc; rw [hFv]; show _ = ite _ _ _; rw [if_neg (by rw [hc]; decide)]
  ·as_aux_lemma =>
   have hC := hC136v.out
   refine Rg.stepR_guarded (.int .u64 ((h.zc : Int))) C122v B134v 40 false 135 (by rfl) (by kernel_rfl) (by kernel_rfl) (by kernel_rfl) (fun x hx => by rw [hFv] at hx; exact hx) (fun hc a hr => ?_) (fun hc => ?_) (fun hc => ?_)
   ·have z136 := Rg.read_new hr 136 (by kernel_rfl) (by kernel_rfl); rw [hFv] at z136; have r136 : a.eval (.tmp 136) = if C136v = true then .pointer (some ⟨w.heap.size, 4, none⟩) else undef := z136; clear z136; rw [← hC] at hc; clear hC; rw [if_pos hc] at r136; generalize a.eval = ρ at *; clear hr; go_simp
   ·rw [← hC] at hc; rw [hFv]; show _ = ite _ _ _; rw [if_pos hc]
   ·rw [← hC] at hc; rw [hFv]; show _ = ite _ _ _; rw [if_neg (by rw [hc]; decide)]
  ·as_aux_lemma =>
   have hC := hC136v.out
   refine Rg.stepR_guarded (.bool B138v) C122v B134v 40 false 135 (by rfl) (by kernel_rfl) (by kernel_rfl) (by kernel_rfl) (fun x hx => by rw [hFv] at hx; exact hx) (fun hc a hr => ?_) (fun hc => ?_) (fun hc => ?_)
   ·have z137 := Rg.read_new hr 137 (by kernel_rfl) (by kernel_rfl); rw [hFv] at z137; have r137 : a.eval (.tmp 137) = if C136v = true then .int .u64 ((h.zc : Int)) else undef := z137; clear z137; rw [← hC] at hc; clear hC; rw [if_pos hc] at r137; have rc : ∀ v, a.eval (.const v) = v := fun _ => rfl; rw [show B138v = _ from hB138v.out]; generalize a.eval = ρ at *; clear hr; go_simp
   ·rw [← hC] at hc; rw [hFv]; show _ = ite _ _ _; rw [if_pos hc]
   ·rw [← hC] at hc; rw [hFv]; show _ = ite _ _ _; rw [if_neg (by rw [hc]; decide)]
  ·as_aux_lemma =>
   have hC := hC122v.out
   refine Rg.stepR_guarded (.bool B139v) C119v B120v 26 true 121 (by rfl) (by kernel_rfl) (by kernel_rfl) (by kernel_rfl) (fun x hx => by rw [hFv] at hx; exact hx) (fun hc a hr => ?_) (fun hc => ?_) (fun hc => ?_)
   ·have z135 := Rg.read_new hr 135 (by kernel_rfl) (by kernel_rfl); rw [hFv] at z135; have r135 : a.eval (.tmp 135) = if C122v = true then .bool B134v else undef := z135; clear z135; have z138 := Rg.read_new hr 138 (by kernel_rfl) (by kernel_rfl); rw [hFv] at z138; have r138 : a.eval (.tmp 138) = if C136v = true then .bool B138v else undef := z138; clear z138; rw [← hC] at hc; clear hC; rw [if_pos hc] at r135; have rc : ∀ v, a.eval (.const v) = v := fun _ => rfl; rw [show B139v = _ from hB139v.out]; have e138 := hC136v.out; rw [hc] at e138; clear hr; generalize a.eval = ρ at *; cases B134v <;> simp [e138] at r138 <;> (simp [r135, r138, rc, go_sem, execOp])
   ·rw [← hC] at hc; rw [hFv]; show _ = ite _ _ _; rw [if_pos hc]
   ·rw [← hC] at hc; rw [hFv]; show _ = ite _ _ _; rw [if_neg (by rw [hc]; decide)]
  ·as_aux_lemma =>
   have hC := hC119v.out
   refine Rg.stepR_guarded (.bool B140v) true B117v 23 false 118 (by rfl) (by kernel_rfl) (by kernel_rfl) (by kernel_rfl) (fun x hx => by rw [hFv] at hx; exact hx) (fun hc a hr => ?_) (fun hc => ?_) (fun hc => ?_)
   ·have z121 := Rg.read_new hr 121 (by kernel_rfl) (by kernel_rfl); rw [hFv] at z121; have r121 : a.eval (.tmp 121) = if C119v = true then .bool B120v else undef := z121; clear z121; have z139 := Rg.read_new hr 139 (by kernel_rfl) (by kernel_rfl); rw [hFv] at z139; have r139 : a.eval (.tmp 139) = if C122v = true then .bool B139v else undef := z139; clear z139; rw [← hC] at hc; clear hC; rw [if_pos hc] at r121; have rc : ∀ v, a.eval (.const v) = v := fun _ => rfl; rw [show B140v = _ from hB140v.out]; have e139 := hC122v.out; rw [hc] at e139; clear hr; generalize a.eval = ρ at *; cases B120v <;> simp [e139] at r139 <;> (simp [r121, r139, rc, go_sem, execOp])
   ·rw [← hC] at hc; rw [hFv]; show _ = ite _ _ _; rw [if_pos hc]
   ·rw [← hC] at hc; rw [hFv]; show _ = ite _ _ _; rw [if_neg (by rw [hc]; decide)]
  ·as_aux_lemma =>
   refine Rg.stepR_free (.bool B141v) (by rfl) (fun a hr => ?_) (by rw [hFv]; rfl)
   have z118 := Rg.read_new hr 118 (by kernel_rfl) (by kernel_rfl); rw [hFv] at z118; have r118 : a.eval (.tmp 118) = .bool B117v := z118; clear z118; have z140 := Rg.read_new hr 140 (by kernel_rfl) (by kernel_rfl); rw [hFv] at z140; have r140 : a.eval (.tmp 140) = if C119v = true then .bool B140v else undef := z140; clear z140; have rc : ∀ v, a.eval (.const v) = v := fun _ => rfl; rw [show B141v = _ from hB141v.out]; have e140 := hC119v.out; clear hr; generalize a.eval = ρ at *; cases B117v <;> simp [e140] at r140 <;> (simp [r118, r140, rc, go_sem, execOp])
 intro uv huv
 have e141 : uv 141 = .bool B141v := by have z := huv 141 (by rfl); rw [hFv] at z; exact z
 clear huv
 simp only [e141]
 clear e141
 clear hwa hwb
 cases B141v with
 | true =>
  go_wp2
  go_ret
  exact fitPost_no hB0
 | false =>
 have FB : Hid ((fl = true → h.ups.length + h.downs.length = 0 ∧ plain h.cnt = true ∧ plain h.zc = true) ∧ (fl = false → h.fups.length + h.fdowns.length = 0 ∧ (h.cnt : Int) ≤ 1125899906842624 ∧ (h.zc : Int) ≤ 1125899906842624)) := by
  have z := hB141v.out.symm
  simp only [hB104v.out, hB108v.out, hB109v.out, hB110v.out, hB114v.out, hB115v.out, hB116v.out, hB117v.out, hB120v.out, hB129v.out, hB133v.out, hB134v.out, hB138v.out, hB139v.out, hB140v.out, Bool.or_eq_false_iff, Bool.and_eq_false_imp, Bool.not_eq_true', Bool.not_eq_false', decide_eq_false_iff_not, beq_eq_false_iff_ne] at z
  obtain ⟨z1, z2⟩ := z
  exact ⟨fun hc => ⟨by have := (z1 hc).1.1; omega, (z1 hc).1.2, (z1 hc).2⟩, fun hc => ⟨by have := (z2 hc).1.1; omega, by have := (z2 hc).1.2; omega, by have := (z2 hc).2; omega⟩⟩
 clear hFv hC97v hB104v hC106v hB108v hB109v hB110v hC112v hB114v hB115v hB116v hB117v hC119v hB120v hC122v hB129v hC131v hB133v hB134v hC136v hB138v hB139v hB140v hB141v
 obtain ⟨hf, hw, ha⟩ := HX
 have hq := And.intro q0 (And.intro q1 (And.intro q2 (And.intro q3 (And.intro q4 (And.intro q5 (And.intro q6 (And.intro q7 (And.intro q8 (And.intro q9 (And.intro q10 (And.intro q11 q12)))))))))))
 clear q0 q1 q2 q3 q4 q5 q6 q7 q8 q9 q10 q11 q12
 have hla := bkts_len fl h.pos h.ups h.fups
 have hlb := bkts_len fl h.neg h.downs h.fdowns
 have hla2 : (bkts fl h.pos h.ups h.fups).1.length ≤ 2147483647 := by cases fl <;> simp at hla <;> have := hf.ups <;> have := hf.fups <;> omega
 have hlb2 : (bkts fl h.neg h.downs h.fdowns).1.length ≤ 2147483647 := by cases fl <;> simp at hlb <;> have := hf.downs <;> have := hf.fdowns <;> omega
 clear hla hlb
 go_wp2_with (go_at_call 28; with_reducible (show Calls _ _ #[.slice a1 _ _, _, _, _] _ _); refine (buckets_any fl _ _ _ h.pos h.ups h.fups w.heap.size _ (ha.pos.below hB0 (Nat.le_refl _)) (ha.ups.below hB0 (Nat.le_refl _)) (ha.fups.below hB0 (Nat.le_refl _)) hf.pos hf.ups hf.fups hw.pos).mono ?_; rintro e w1 ⟨x, rfl, ho1, hb1⟩; have hq1 := keep13 hb1 hz hq; have hB1 := hB0.trans (hb1.mono hB0.size); have hz1 := hb1.size; have o1 := OwnIn.made ho1 hz1; obtain ⟨ax, cx, rfl⟩ := own_form ho1; clear hq)
 go_at_call 28
 refine (buckets_any fl _ _ _ h.neg h.downs h.fdowns w.heap.size _ (ha.neg.below hB1 (Nat.le_refl _)) (ha.downs.below hB1 (Nat.le_refl _)) (ha.fdowns.below hB1 (Nat.le_refl _)) hf.neg hf.downs hf.fdowns hw.neg).mono ?_
 rintro e w2 ⟨y, rfl, ho2, hb2⟩
 have hq2 := keep13 hb2 (by omega) hq1
 have hB2 := hB1.trans (hb2.mono hB1.size)
 have hz2 := hb2.size
 have o2 := OwnIn.made ho2 hz2
 replace o1 := o1.below hb2 (Nat.le_refl _)
 obtain ⟨ay, cy, rfl⟩ := own_form ho2
 clear hq1
 have hA2 := (Below.refl w2.heap.size w2).alloc (Nat.le_refl _) (.cells #[] 66)
 have o1' := o1.below hA2 hz2
 have o2' := o2.below hA2 (Nat.le_refl _)
 generalize hbA : bkts fl h.pos h.ups h.fups = bA at *
 generalize hbB : bkts fl h.neg h.downs h.fdowns = bB at *
 obtain ⟨lA, okA⟩ := bA
 obtain ⟨lB, okB⟩ := bB
 have HA := Lib.hid hbA
 have HB := Lib.hid hbB
 clear hbA hbB
 simp only at *
 go_upto_region 10 with (first
  | (at_builtin; refine wpList_append_rows rfl (.tmp 164) (.tmp 165) rfl rfl w2.heap.size _ 0 [] rfl (ownsRow_empty w2 _ 2) _ _ _ _ rfl o1'.own (by omega) (by simp) ?_; intro v3 w3 hown3 hg3; rw [Nat.zero_add, List.nil_append] at hown3; obtain ⟨a3', c3', rfl⟩ := own_form hown3; have hB3 := ((hB2.alloc hB2.size _).grown hg3 (by have := hB2.size; simp; omega) (fun q hq => (Nat.le_trans hB2.size ((ownsRow_empty w2 66 2).lt q hq).1))); have hA3 := ((Below.refl w2.heap.size w2).alloc (Nat.le_refl _) (.cells #[] 66)).grown hg3 (by simp) (fun q hq => ((ownsRow_empty w2 66 2).lt q hq).1); have o2'' := o2.below hA3 (Nat.le_refl _); have hq2' := Lib.hid hq2; have hq3 := keep13 hA3 (by omega) hq2; clear hq2)
  | (at_builtin; refine wpList_append_rows rfl (.tmp 166) (.tmp 167) rfl rfl w2.heap.size _ _ _ rfl hown3 _ _ _ _ rfl o2''.own (by omega) hA3.size ?_; intro v4 w4 hown4 hg4; obtain ⟨a4', c4', rfl⟩ := own_form hown4; have hB4 := hB3.grown hg4 hB3.size (fun q hq => (Nat.le_trans hB2.size (hown3.lt q hq).1)); have hA4 := hA3.grown hg4 hA3.size (fun q hq => (hown3.lt q hq).1); have hq4 := keep13 hA4 (by omega) hq2'.out; clear hq3)
  | fail)
 clear o1 o2 o1' o2' o2'' hown3 hg3 hg4
 have q0 := hq4.1
 have q1 := hq4.2.1
 have HQ := Lib.hid hq4
 clear hq4
 obtain ⟨B171x, hB171x⟩ : ∃ B : Bool, RowKit.Hid (B = (decide (((h.schema : Int)) < ((0 : Int))))) := ⟨_, rfl⟩
 obtain ⟨C173x, hC173x⟩ : ∃ B : Bool, RowKit.Hid (B = (true && (B171x == true))) := ⟨_, rfl⟩
 obtain ⟨B174x, hB174x⟩ : ∃ B : Bool, RowKit.Hid (B = (!(cus))) := ⟨_, rfl⟩
 obtain ⟨B175x, hB175x⟩ : ∃ B : Bool, RowKit.Hid (B = ((B171x) && (B174x))) := ⟨_, rfl⟩
 obtain ⟨Fx, hFx⟩ : ∃ F : Tmp → Value → Prop, F = (fun s zz => match s with
   | 169 => zz = .pointer (some ⟨w.heap.size, 1, none⟩)
   | 170 => zz = .int .i32 (h.schema)
   | 171 => zz = .bool B171x
   | 172 => zz = .bool B171x
   | 173 => zz = if C173x = true then .bool cus else undef
   | 174 => zz = if C173x = true then .bool B174x else undef
   | 175 => zz = .bool B175x
   | _ => True) := ⟨_, rfl⟩
 refine Rg.region_pure2 Fx [169, 170, 171, 172, 173, 174, 175] (fun ux => ⟨#[.agg #[.int .u8 h.hint, .int .i32 h.schema, .int .u64 h.thr, .int .u64 h.sum, .int .u64 h.zc, .int .u64 h.cnt, .slice a1 h.pos.length c1, .slice a2 h.neg.length c2, .slice a3 h.ups.length c3, .slice a4 h.downs.length c4, .slice a5 h.fups.length c5, .slice a6 h.fdowns.length c6, .slice a7 h.cus.length c7], .bool fl, .pointer (some ⟨w.heap.size, 0, none⟩), undef, .bool false, .bool cus, .slice ax lA.length cx, .bool okA, .slice ay lB.length cy, .bool okB, .slice a4' (lA.length + lB.length) c4', .int .i64 1000, undef, undef, undef, undef, .pointer (some ⟨w.heap.size, 1, none⟩), .int .i32 h.schema, .bool cus, u 19, u 20, u 21, u 22, u 23, u 24, u 25, u 26, u 27, u 28, u 29, u 30, u 31, u 32, u 33, u 34, u 35, u 36, u 37, u 38, u 39, u 40, u 41, u 42, u 43, u 44, u 45, u 46, u 47, u 48, u 49, u 50, u 51, u 52, u 53, u 54, u 55, u 56, u 57, u 58, u 59, u 60, u 61, u 62, u 63, u 64, u 65, u 66, u 67, u 68, u 69, u 70, u 71, u 72, u 73, u 74, u 75, u 76, u 77, u 78, u 79, u 80, u 81, u 82, u 83, u 84, u 85, u 86, u 87, u 88, u 89, u 90, u 91, u 92, u 93, .bool false, uv 95, uv 96, uv 97, uv 98, uv 99, uv 100, uv 101, uv 102, uv 103, uv 104, uv 105, uv 106, uv 107, uv 108, uv 109, uv 110, uv 111, uv 112, uv 113, uv 114, uv 115, uv 116, uv 117, uv 118, uv 119, uv 120, uv 121, uv 122, uv 123, uv 124, uv 125, uv 126, uv 127, uv 128, uv 129, uv 130, uv 131, uv 132, uv 133, uv 134, uv 135, uv 136, uv 137, uv 138, uv 139, uv 140, .bool false, .tuple #[.slice ax lA.length cx, .bool okA], .pointer (some ⟨w.heap.size, 6, none⟩), .slice a1 h.pos.length c1, .pointer (some ⟨w.heap.size, 8, none⟩), .slice a3 h.ups.length c3, .pointer (some ⟨w.heap.size, 10, none⟩), .slice a5 h.fups.length c5, .bool fl, .tuple #[.slice ax lA.length cx, .bool okA], .slice ax lA.length cx, .bool okA, .tuple #[.slice ay lB.length cy, .bool okB], .pointer (some ⟨w.heap.size, 7, none⟩), .slice a2 h.neg.length c2, .pointer (some ⟨w.heap.size, 9, none⟩), .slice a4 h.downs.length c4, .pointer (some ⟨w.heap.size, 11, none⟩), .slice a6 h.fdowns.length c6, .bool fl, .tuple #[.slice ay lB.length cy, .bool okB], .slice ay lB.length cy, .bool okB, .slice (some ⟨w2.heap.size, 0, none⟩) 0 0, .slice ax lA.length cx, .slice a3' lA.length c3', .slice ay lB.length cy, .slice a4' (lA.length + lB.length) c4', ux 169, ux 170, ux 171, ux 172, ux 173, ux 174, ux 175, undef, undef, undef, undef, undef, undef, undef, undef, undef, undef, undef, undef, undef, undef, undef, undef, undef, undef, undef, undef, undef, undef, undef, undef, undef, undef, undef, undef, undef, undef, undef, undef, undef, undef, undef, undef, undef, undef, undef, undef, undef, undef, undef, undef, undef, undef, undef, undef, undef, undef, undef, undef, undef, undef, undef, undef, undef, undef, undef, undef, undef, undef, undef, undef, undef, undef, undef, undef, undef, undef, undef, undef, undef, undef, undef, undef, undef, undef, undef, undef, undef, undef, undef, undef, undef, undef, undef, undef, undef, undef, undef, undef, undef, undef, undef, undef, undef, undef, undef, undef, undef, undef, undef, undef, undef, undef, undef, undef, undef, undef, undef, undef, undef, undef, undef, undef, undef, undef, undef, undef, undef, undef, undef, undef, undef, undef, undef, undef, undef, undef, undef, undef, undef, undef, undef, undef, undef, undef, undef, undef, undef, undef, undef, undef, undef, undef, undef, undef, undef, undef, undef, undef, undef, undef, undef, undef, undef, undef, undef, undef, undef, undef, undef, undef, undef, undef, undef, undef, undef, undef, undef, undef, undef, undef, undef, undef, undef, undef, undef, undef, undef, undef, undef, undef, undef, undef, undef, undef, undef, undef], []⟩) (fun _ => by as_aux_lemma => kernel_rfl) (by as_aux_lemma => kernel_rfl) (by as_aux_lemma => kernel_rfl) (by as_aux_lemma => kernel_rfl) (by as_aux_lemma => kernel_rfl) ?stx ?_
 case stx =>
  refine ⟨?_, ?_, ?_, ?_, ?_, ?_, ?_, trivial⟩
  skip
  ·as_aux_lemma =>
   refine Rg.stepR_free (.pointer (some ⟨w.heap.size, 1, none⟩)) (by rfl) (fun a hr => ?_) (by rw [hFx]; rfl)
   have z2 := Rg.read_old hr 2 (by kernel_rfl) (by kernel_rfl); have r2 : a.eval (.tmp 2) = .pointer (some ⟨w.heap.size, 0, none⟩) := z2; clear z2; generalize a.eval = ρ at *; clear hr; go_simp
  ·as_aux_lemma =>
   refine Rg.stepR_free (.int .i32 (h.schema)) (by rfl) (fun a hr => ?_) (by rw [hFx]; rfl)
   have z169 := Rg.read_new hr 169 (by kernel_rfl) (by kernel_rfl); rw [hFx] at z169; have r169 : a.eval (.tmp 169) = .pointer (some ⟨w.heap.size, 1, none⟩) := z169; clear z169; generalize a.eval = ρ at *; clear hr; go_simp
  ·as_aux_lemma =>
   refine Rg.stepR_free (.bool B171x) (by rfl) (fun a hr => ?_) (by rw [hFx]; rfl)
   have z170 := Rg.read_new hr 170 (by kernel_rfl) (by kernel_rfl); rw [hFx] at z170; have r170 : a.eval (.tmp 170) = .int .i32 (h.schema) := z170; clear z170; have rc : ∀ v, a.eval (.const v) = v := fun _ => rfl; rw [show B171x = _ from hB171x.out]; generalize a.eval = ρ at *; clear hr; go_simp
  ·as_aux_lemma =>
   refine Rg.stepR_free (.bool B171x) (by rfl) (fun a hr => ?_) (by rw [hFx]; rfl)
   have z171 := Rg.read_new hr 171 (by kernel_rfl) (by kernel_rfl); rw [hFx] at z171; have r171 : a.eval (.tmp 171) = .bool B171x := z171; clear z171; generalize a.eval = ρ at *; clear hr; go_simp
  ·as_aux_lemma =>
   have hC := hC173x.out
   refine Rg.stepR_guarded (.bool cus) true B171x 3 true 172 (by rfl) (by kernel_rfl) (by kernel_rfl) (by kernel_rfl) (fun x hx => by rw [hFx] at hx; exact hx) (fun hc a hr => ?_) (fun hc => ?_) (fun hc => ?_)
   ·have z5 := Rg.read_old hr 5 (by kernel_rfl) (by kernel_rfl); have r5 : a.eval (.tmp 5) = .bool cus := z5; clear z5; rw [← hC] at hc; clear hC; generalize a.eval = ρ at *; clear hr; go_simp
   ·rw [← hC] at hc; rw [hFx]; show _ = ite _ _ _; rw [if_pos hc]
   ·rw [← hC] at hc; rw [hFx]; show _ = ite _ _ _; rw [if_neg (by rw [hc]; decide)]
  ·as_aux_lemma =>
   have hC := hC173x.out
   refine Rg.stepR_guarded (.bool B174x) true B171x 3 true 172 (by rfl) (by kernel_rfl) (by kernel_rfl) (by kernel_rfl) (fun x hx => by rw [hFx] at hx; exact hx) (fun hc a hr => ?_) (fun hc => ?_) (fun hc => ?_)
   ·have z173 := Rg.read_new hr 173 (by kernel_rfl) (by kernel_rfl); rw [hFx] at z173; have r173 : a.eval (.tmp 173) = if C173x = true then .bool cus else undef := z173; clear z173; rw [← hC] at hc; clear hC; rw [if_pos hc] at r173; rw [show B174x = _ from hB174x.out]; generalize a.eval = ρ at *; clear hr; go_simp
   ·rw [← hC] at hc; rw [hFx]; show _ = ite _ _ _; rw [if_pos hc]
   ·rw [← hC] at hc; rw [hFx]; show _ = ite _ _ _; rw [if_neg (by rw [hc]; decide)]
  ·as_aux_lemma =>
   refine Rg.stepR_free (.bool B175x) (by rfl) (fun a hr => ?_) (by rw [hFx]; rfl)
   have z172 := Rg.read_new hr 172 (by kernel_rfl) (by kernel_rfl); rw [hFx] at z172; have r172 : a.eval (.tmp 172) = .bool B171x := z172; clear z172; have z174 := Rg.read_new hr 174 (by kernel_rfl) (by kernel_rfl); rw [hFx] at z174; have r174 : a.eval (.tmp 174) = if C173x = true then .bool B174x else undef := z174; clear z174; have rc : ∀ v, a.eval (.const v) = v := fun _ => rfl; rw [show B175x = _ from hB175x.out]; have e174 := hC173x.out; clear hr; generalize a.eval = ρ at *; cases B171x <;> simp [e174] at r174 <;> (simp [r172, r174, rc, go_sem, execOp])
 intro ux hux
 have e175 : ux 175 = .bool B175x := by have z := hux 175 (by rfl); rw [hFx] at z; exact z
 clear hux
 simp only [e175]
 clear e175
 clear hFx
 have hq4 := HQ.out
 have HS : Hid (B175x = true → cus = false ∧ h.schema < 0) := fun hc => by
  have z := hB175x.out.symm.trans hc
  simp only [hB171x.out, hB174x.out, Bool.and_eq_true, decide_eq_true_iff, Bool.not_eq_true'] at z
  exact ⟨z.2, z.1⟩
 clear hB171x hC173x hB174x hB175x
 go_upto_if 175 with fail
 go_cut [11] (fun s11 wx => ∃ most : Int, 0 ≤ most ∧ most ≤ 1000 ∧ s11 = .int .i64 most ∧ w4 = wx)
 case first =>
  cases B175x with
  | false => go_wp2_with fail; go_meet; exact ⟨1000, by decide, by decide, rfl, rfl⟩
  | true =>
   obtain ⟨g1, g2⟩ := HS.out rfl
   obtain ⟨most, m0, m1, hsh⟩ := shr_most h.schema (FA.out.2.1 g1).1.1 g2
   have hsh' := hsh Tryd.prog w4
   clear g1 g2 hsh
   go_wp2_with fail; go_meet; exact ⟨most, m0, m1, rfl, rfl⟩
 case rest => as_aux_lemma =>
  obtain ⟨most, hm0, hm1, rfl, rfl⟩ := hcut
  have hL : Pairs w4 w4.heap.size .i64 .u64 (.slice a4' (lA.length + lB.length) c4') (lA ++ lB) := Pairs.own hown4
  have hLl : (lA ++ lB).length = lA.length + lB.length := List.length_append
  have HLl := Lib.hid hLl
  have hq12 : w4.cell? ⟨w.heap.size, 12, none⟩ = some (.slice a7 h.cus.length c7) := hq4.2.2.2.2.2.2.2.2.2.2.2.2
  have hqn : w.heap.size < w4.heap.size := by have := hA4.size; omega
  clear hLl hown4 hA2 ho1 ho2 hb1 hb2 hA3 hB0 hB1 hB2 hB3 hq2'
  go_wp2_with fail
  go_loopw [12] (fun i wr => ∃ k : Nat, k ≤ lA.length + lB.length ∧ i = .int .i64 k ∧ (∀ j x, j < k → (lA ++ lB)[j]? = some x → GoodB fl cus most h.cus.length x) ∧ Below w.heap.size w wr ∧ Below w4.heap.size w4 wr) (fun i _ => lA.length + lB.length - (intOf i).toNat)
  case atStart => exact ⟨0, Nat.zero_le _, rfl, fun j _ hj => absurd hj (Nat.not_lt_zero _), hB4, Below.refl _ _⟩
  case round => as_aux_lemma =>
   obtain ⟨k, hk, rfl, hgood, hbel, hbel4⟩ := hrel
   by_cases hlt : k < lA.length + lB.length
   ·obtain ⟨lb, lo, rfl, hlb1, hlb2', hlc⟩ := hL.at_ (by rw [HLl.out]; omega)
    have hlt' : k < (lA ++ lB).length := by rw [HLl.out]; exact hlt
    have e0 := (hbel4.cell (p := ⟨lb, lo + k * 2, none⟩) hlb1).trans (hlc k hlt').1
    have e1 := (hbel4.cell (p := ⟨lb, lo + k * 2 + 1, none⟩) hlb1).trans (hlc k hlt').2
    have HX' := Lib.hid (List.getElem?_eq_getElem hlt')
    have e12 := (hbel4.cell (p := ⟨w.heap.size, 12, none⟩) hqn).trans hq12
    clear hlc hL hq4 hq12
    generalize (lA ++ lB)[k] = q at *
    obtain ⟨x0, x1⟩ := q
    have i0 : (0 : Int) ≤ (k : Int) := by omega
    have i1 : (k : Int) < (lA.length : Int) + (lB.length : Int) := by omega
    have hng : IntKind.i64.wrap (-most) = -most := IntWalk.i64_in _ (by omega)
    go_wp2_with fail
    obtain ⟨B194y, hB194y⟩ : ∃ B : Bool, RowKit.Hid (B = (decide (((x0 : Int)) < ((-(most) : Int))))) := ⟨_, rfl⟩
    obtain ⟨C196y, hC196y⟩ : ∃ B : Bool, RowKit.Hid (B = (true && (B194y == false))) := ⟨_, rfl⟩
    obtain ⟨B202y, hB202y⟩ : ∃ B : Bool, RowKit.Hid (B = (decide (((most : Int)) < ((x0 : Int))))) := ⟨_, rfl⟩
    obtain ⟨B203y, hB203y⟩ : ∃ B : Bool, RowKit.Hid (B = ((B194y) || (B202y))) := ⟨_, rfl⟩
    obtain ⟨C205y, hC205y⟩ : ∃ B : Bool, RowKit.Hid (B = (true && (B203y == false))) := ⟨_, rfl⟩
    obtain ⟨C207y, hC207y⟩ : ∃ B : Bool, RowKit.Hid (B = (C205y && (fl == true))) := ⟨_, rfl⟩
    obtain ⟨B212y, hB212y⟩ : ∃ B : Bool, RowKit.Hid (B = (plain (x1))) := ⟨_, rfl⟩
    obtain ⟨B213y, hB213y⟩ : ∃ B : Bool, RowKit.Hid (B = (!(B212y))) := ⟨_, rfl⟩
    obtain ⟨B214y, hB214y⟩ : ∃ B : Bool, RowKit.Hid (B = ((fl) && (B213y))) := ⟨_, rfl⟩
    obtain ⟨B215y, hB215y⟩ : ∃ B : Bool, RowKit.Hid (B = ((B203y) || (B214y))) := ⟨_, rfl⟩
    obtain ⟨C217y, hC217y⟩ : ∃ B : Bool, RowKit.Hid (B = (true && (B215y == false))) := ⟨_, rfl⟩
    obtain ⟨B218y, hB218y⟩ : ∃ B : Bool, RowKit.Hid (B = (!(fl))) := ⟨_, rfl⟩
    obtain ⟨C220y, hC220y⟩ : ∃ B : Bool, RowKit.Hid (B = (C217y && (B218y == true))) := ⟨_, rfl⟩
    obtain ⟨B225y, hB225y⟩ : ∃ B : Bool, RowKit.Hid (B = (decide (((1125899906842624 : Int)) < ((x1 : Int))))) := ⟨_, rfl⟩
    obtain ⟨B226y, hB226y⟩ : ∃ B : Bool, RowKit.Hid (B = ((B218y) && (B225y))) := ⟨_, rfl⟩
    obtain ⟨B227y, hB227y⟩ : ∃ B : Bool, RowKit.Hid (B = ((B215y) || (B226y))) := ⟨_, rfl⟩
    obtain ⟨C229y, hC229y⟩ : ∃ B : Bool, RowKit.Hid (B = (true && (B227y == false))) := ⟨_, rfl⟩
    obtain ⟨C231y, hC231y⟩ : ∃ B : Bool, RowKit.Hid (B = (C229y && (cus == true))) := ⟨_, rfl⟩
    obtain ⟨B236y, hB236y⟩ : ∃ B : Bool, RowKit.Hid (B = (decide (((x0 : Int)) < ((0 : Int))))) := ⟨_, rfl⟩
    obtain ⟨C238y, hC238y⟩ : ∃ B : Bool, RowKit.Hid (B = (C231y && (B236y == false))) := ⟨_, rfl⟩
    obtain ⟨B246y, hB246y⟩ : ∃ B : Bool, RowKit.Hid (B = (decide ((((h.cus.length : Int) : Int)) < ((x0 : Int))))) := ⟨_, rfl⟩
    obtain ⟨B247y, hB247y⟩ : ∃ B : Bool, RowKit.Hid (B = ((B236y) || (B246y))) := ⟨_, rfl⟩
    obtain ⟨B248y, hB248y⟩ : ∃ B : Bool, RowKit.Hid (B = ((cus) && (B247y))) := ⟨_, rfl⟩
    obtain ⟨B249y, hB249y⟩ : ∃ B : Bool, RowKit.Hid (B = ((B227y) || (B248y))) := ⟨_, rfl⟩
    obtain ⟨Fy, hFy⟩ : ∃ F : Tmp → Value → Prop, F = (fun s zz => match s with
      | 187 => zz = .slice (some ⟨lb, lo, none⟩) (lA.length + lB.length) c4'
      | 188 => zz = .int .i64 ((k : Int))
      | 189 => zz = .pointer (some ⟨lb, lo + k * 2, none⟩)
      | 190 => zz = .pointer (some ⟨lb, lo + k * 2, none⟩)
      | 191 => zz = .int .i64 (x0)
      | 192 => zz = .int .i64 (most)
      | 193 => zz = .int .i64 (-(most))
      | 194 => zz = .bool B194y
      | 195 => zz = .bool B194y
      | 196 => zz = if C196y = true then .slice (some ⟨lb, lo, none⟩) (lA.length + lB.length) c4' else undef
      | 197 => zz = if C196y = true then .int .i64 ((k : Int)) else undef
      | 198 => zz = if C196y = true then .pointer (some ⟨lb, lo + k * 2, none⟩) else undef
      | 199 => zz = if C196y = true then .pointer (some ⟨lb, lo + k * 2, none⟩) else undef
      | 200 => zz = if C196y = true then .int .i64 (x0) else undef
      | 201 => zz = if C196y = true then .int .i64 (most) else undef
      | 202 => zz = if C196y = true then .bool B202y else undef
      | 203 => zz = .bool B203y
      | 204 => zz = .bool B203y
      | 205 => zz = if C205y = true then .bool fl else undef
      | 206 => zz = if C205y = true then .bool fl else undef
      | 207 => zz = if C207y = true then .slice (some ⟨lb, lo, none⟩) (lA.length + lB.length) c4' else undef
      | 208 => zz = if C207y = true then .int .i64 ((k : Int)) else undef
      | 209 => zz = if C207y = true then .pointer (some ⟨lb, lo + k * 2, none⟩) else undef
      | 210 => zz = if C207y = true then .pointer (some ⟨lb, lo + k * 2 + 1, none⟩) else undef
      | 211 => zz = if C207y = true then .int .u64 (x1) else undef
      | 212 => zz = if C207y = true then .bool B212y else undef
      | 213 => zz = if C207y = true then .bool B213y else undef
      | 214 => zz = if C205y = true then .bool B214y else undef
      | 215 => zz = .bool B215y
      | 216 => zz = .bool B215y
      | 217 => zz = if C217y = true then .bool fl else undef
      | 218 => zz = if C217y = true then .bool B218y else undef
      | 219 => zz = if C217y = true then .bool B218y else undef
      | 220 => zz = if C220y = true then .slice (some ⟨lb, lo, none⟩) (lA.length + lB.length) c4' else undef
      | 221 => zz = if C220y = true then .int .i64 ((k : Int)) else undef
      | 222 => zz = if C220y = true then .pointer (some ⟨lb, lo + k * 2, none⟩) else undef
      | 223 => zz = if C220y = true then .pointer (some ⟨lb, lo + k * 2 + 1, none⟩) else undef
      | 224 => zz = if C220y = true then .int .u64 (x1) else undef
      | 225 => zz = if C220y = true then .bool B225y else undef
      | 226 => zz = if C217y = true then .bool B226y else undef
      | 227 => zz = .bool B227y
      | 228 => zz = .bool B227y
      | 229 => zz = if C229y = true then .bool cus else undef
      | 230 => zz = if C229y = true then .bool cus else undef
      | 231 => zz = if C231y = true then .slice (some ⟨lb, lo, none⟩) (lA.length + lB.length) c4' else undef
      | 232 => zz = if C231y = true then .int .i64 ((k : Int)) else undef
      | 233 => zz = if C231y = true then .pointer (some ⟨lb, lo + k * 2, none⟩) else undef
      | 234 => zz = if C231y = true then .pointer (some ⟨lb, lo + k * 2, none⟩) else undef
      | 235 => zz = if C231y = true then .int .i64 (x0) else undef
      | 236 => zz = if C231y = true then .bool B236y else undef
      | 237 => zz = if C231y = true then .bool B236y else undef
      | 238 => zz = if C238y = true then .slice (some ⟨lb, lo, none⟩) (lA.length + lB.length) c4' else undef
      | 239 => zz = if C238y = true then .int .i64 ((k : Int)) else undef
      | 240 => zz = if C238y = true then .pointer (some ⟨lb, lo + k * 2, none⟩) else undef
      | 241 => zz = if C238y = true then .pointer (some ⟨lb, lo + k * 2, none⟩) else undef
      | 242 => zz = if C238y = true then .int .i64 (x0) else undef
      | 243 => zz = if C238y = true then .pointer (some ⟨w.heap.size, 12, none⟩) else undef
      | 244 => zz = if C238y = true then .slice a7 h.cus.length c7 else undef
      | 245 => zz = if C238y = true then .int .i64 ((h.cus.length : Int)) else undef
      | 246 => zz = if C238y = true then .bool B246y else undef
      | 247 => zz = if C231y = true then .bool B247y else undef
      | 248 => zz = if C229y = true then .bool B248y else undef
      | 249 => zz = .bool B249y
      | _ => True) := ⟨_, rfl⟩
    refine Rg.region_drawn2 (by kernel_rfl) Fy [187, 188, 189, 190, 191, 192, 193, 194, 195, 196, 197, 198, 199, 200, 201, 202, 203, 204, 205, 206, 207, 208, 209, 210, 211, 212, 213, 214, 215, 216, 217, 218, 219, 220, 221, 222, 223, 224, 225, 226, 227, 228, 229, 230, 231, 232, 233, 234, 235, 236, 237, 238, 239, 240, 241, 242, 243, 244, 245, 246, 247, 248, 249] (fun uy => ⟨#[.agg #[.int .u8 h.hint, .int .i32 h.schema, .int .u64 h.thr, .int .u64 h.sum, .int .u64 h.zc, .int .u64 h.cnt, .slice a1 h.pos.length c1, .slice a2 h.neg.length c2, .slice a3 h.ups.length c3, .slice a4 h.downs.length c4, .slice a5 h.fups.length c5, .slice a6 h.fdowns.length c6, .slice a7 h.cus.length c7], .bool fl, .pointer (some ⟨w.heap.size, 0, none⟩), undef, u4, .bool cus, .slice ax lA.length cx, .bool okA, .slice ay lB.length cy, .bool okB, .slice (some ⟨lb, lo, none⟩) (lA.length + lB.length) c4', .int .i64 most, .int .i64 k, undef, undef, undef, u16, u17, u18, u19, u20, u21, u22, u23, u24, u25, u26, u27, u28, u29, u30, u31, u32, u33, u34, u35, u36, u37, u38, u39, u40, u41, u42, u43, u44, u45, u46, u47, u48, u49, u50, u51, u52, u53, u54, u55, u56, u57, u58, u59, u60, u61, u62, u63, u64, u65, u66, u67, u68, u69, u70, u71, u72, u73, u74, u75, u76, u77, u78, u79, u80, u81, u82, u83, u84, u85, u86, u87, u88, u89, u90, u91, u92, u93, u94, u95, u96, u97, u98, u99, u100, u101, u102, u103, u104, u105, u106, u107, u108, u109, u110, u111, u112, u113, u114, u115, u116, u117, u118, u119, u120, u121, u122, u123, u124, u125, u126, u127, u128, u129, u130, u131, u132, u133, u134, u135, u136, u137, u138, u139, u140, u141, u142, u143, u144, u145, u146, u147, u148, u149, u150, u151, u152, u153, u154, u155, u156, u157, u158, u159, u160, u161, u162, u163, u164, u165, u166, u167, u168, u169, u170, u171, u172, u173, u174, u175, u176, u177, u178, u179, u180, .int .i64 k, .slice (some ⟨lb, lo, none⟩) (lA.length + lB.length) c4', .int .i64 ((lA.length : Int) + (lB.length : Int)), .bool true, u185, u186, uy 187, uy 188, uy 189, uy 190, uy 191, uy 192, uy 193, uy 194, uy 195, uy 196, uy 197, uy 198, uy 199, uy 200, uy 201, uy 202, uy 203, uy 204, uy 205, uy 206, uy 207, uy 208, uy 209, uy 210, uy 211, uy 212, uy 213, uy 214, uy 215, uy 216, uy 217, uy 218, uy 219, uy 220, uy 221, uy 222, uy 223, uy 224, uy 225, uy 226, uy 227, uy 228, uy 229, uy 230, uy 231, uy 232, uy 233, uy 234, uy 235, uy 236, uy 237, uy 238, uy 239, uy 240, uy 241, uy 242, uy 243, uy 244, uy 245, uy 246, uy 247, uy 248, uy 249, u250, u251, u252, u253, u254, u255, u256, u257, u258, u259, u260, u261, u262, u263, u264, u265, u266, u267, u268, u269, u270, u271, u272, u273, u274, u275, u276, u277, u278, u279, u280, u281, u282, u283, u284, u285, u286, u287, u288, u289, u290, u291, u292, u293, u294, u295, u296, u297, u298, u299, u300, u301, u302, u303, u304, u305, u306, u307, u308, u309, u310, u311, u312, u313, u314, u315, u316, u317, u318, u319, u320, u321, u322, u323, u324, u325, u326, u327, u328, u329, u330, u331, u332, u333, u334, u335, u336, u337, u338, u339, u340, u341, u342, u343, u344, u345, u346, u347, u348, u349, u350, u351, u352, u353, u354, u355, u356, u357, u358, u359, u360, u361, u362, u363, u364, u365], []⟩) (fun _ => by as_aux_lemma => kernel_rfl) (by as_aux_lemma => kernel_rfl) (by as_aux_lemma => kernel_rfl) (by as_aux_lemma => kernel_rfl) (by as_aux_lemma => kernel_rfl) ?sty ?_
    case sty =>
     refine ⟨?_, ?_, ?_, ?_, ?_, ?_, ?_, ?_, ?_, ?_, ?_, ?_, ?_, ?_, ?_, ?_, ?_, ?_, ?_, ?_, ?_, ?_, ?_, ?_, ?_, ?_, ?_, ?_, ?_, ?_, ?_, ?_, ?_, ?_, ?_, ?_, ?_, ?_, ?_, ?_, ?_, ?_, ?_, ?_, ?_, ?_, ?_, ?_, ?_, ?_, ?_, ?_, ?_, ?_, ?_, ?_, ?_, ?_, ?_, ?_, ?_, ?_, ?_, trivial⟩
     skip
     ·as_aux_lemma =>
      refine Rg.stepR_free (.slice (some ⟨lb, lo, none⟩) (lA.length + lB.length) c4') (by rfl) (fun a hr => ?_) (by rw [hFy]; rfl)
      have z10 := Rg.read_old hr 10 (by kernel_rfl) (by kernel_rfl); have r10 : a.eval (.tmp 10) = .slice (some ⟨lb, lo, none⟩) (lA.length + lB.length) c4' := z10; clear z10; generalize a.eval = ρ at *; clear hr; go_simp
     ·as_aux_lemma =>
      refine Rg.stepR_free (.int .i64 ((k : Int))) (by rfl) (fun a hr => ?_) (by rw [hFy]; rfl)
      have z12 := Rg.read_old hr 12 (by kernel_rfl) (by kernel_rfl); have r12 : a.eval (.tmp 12) = .int .i64 ((k : Int)) := z12; clear z12; generalize a.eval = ρ at *; clear hr; go_simp
     ·as_aux_lemma =>
      refine Rg.stepR_free (.pointer (some ⟨lb, lo + k * 2, none⟩)) (by rfl) (fun a hr => ?_) (by rw [hFy]; rfl)
      have z187 := Rg.read_new hr 187 (by kernel_rfl) (by kernel_rfl); rw [hFy] at z187; have r187 : a.eval (.tmp 187) = .slice (some ⟨lb, lo, none⟩) (lA.length + lB.length) c4' := z187; clear z187; have z188 := Rg.read_new hr 188 (by kernel_rfl) (by kernel_rfl); rw [hFy] at z188; have r188 : a.eval (.tmp 188) = .int .i64 ((k : Int)) := z188; clear z188; generalize a.eval = ρ at *; clear hr; go_simp
     ·as_aux_lemma =>
      refine Rg.stepR_free (.pointer (some ⟨lb, lo + k * 2, none⟩)) (by rfl) (fun a hr => ?_) (by rw [hFy]; rfl)
      have z189 := Rg.read_new hr 189 (by kernel_rfl) (by kernel_rfl); rw [hFy] at z189; have r189 : a.eval (.tmp 189) = .pointer (some ⟨lb, lo + k * 2, none⟩) := z189; clear z189; generalize a.eval = ρ at *; clear hr; go_simp
     ·as_aux_lemma =>
      refine Rg.stepR_free (.int .i64 (x0)) (by rfl) (fun a hr => ?_) (by rw [hFy]; rfl)
      have z190 := Rg.read_new hr 190 (by kernel_rfl) (by kernel_rfl); rw [hFy] at z190; have r190 : a.eval (.tmp 190) = .pointer (some ⟨lb, lo + k * 2, none⟩) := z190; clear z190; generalize a.eval = ρ at *; clear hr; go_simp
     ·as_aux_lemma =>
      refine Rg.stepR_free (.int .i64 (most)) (by rfl) (fun a hr => ?_) (by rw [hFy]; rfl)
      have z11 := Rg.read_old hr 11 (by kernel_rfl) (by kernel_rfl); have r11 : a.eval (.tmp 11) = .int .i64 (most) := z11; clear z11; generalize a.eval = ρ at *; clear hr; go_simp
     ·as_aux_lemma =>
      refine Rg.stepR_free (.int .i64 (-(most))) (by rfl) (fun a hr => ?_) (by rw [hFy]; rfl)
      have z192 := Rg.read_new hr 192 (by kernel_rfl) (by kernel_rfl); rw [hFy] at z192; have r192 : a.eval (.tmp 192) = .int .i64 (most) := z192; clear z192; generalize a.eval = ρ at *; clear hr; go_simp
     ·as_aux_lemma =>
      refine Rg.stepR_free (.bool B194y) (by rfl) (fun a hr => ?_) (by rw [hFy]; rfl)
      have z191 := Rg.read_new hr 191 (by kernel_rfl) (by kernel_rfl); rw [hFy] at z191; have r191 : a.eval (.tmp 191) = .int .i64 (x0) := z191; clear z191; have z193 := Rg.read_new hr 193 (by kernel_rfl) (by kernel_rfl); rw [hFy] at z193; have r193 : a.eval (.tmp 193) = .int .i64 (-(most)) := z193; clear z193; rw [show B194y = _ from hB194y.out]; generalize a.eval = ρ at *; clear hr; go_simp
     ·as_aux_lemma =>
      refine Rg.stepR_free (.bool B194y) (by rfl) (fun a hr => ?_) (by rw [hFy]; rfl)
      have z194 := Rg.read_new hr 194 (by kernel_rfl) (by kernel_rfl); rw [hFy] at z194; have r194 : a.eval (.tmp 194) = .bool B194y := z194; clear z194; generalize a.eval = ρ at *; clear hr; go_simp
     ·as_aux_lemma =>
      have hC := hC196y.out
      refine Rg.stepR_guarded (.slice (some ⟨lb, lo, none⟩) (lA.length + lB.length) c4') true B194y 8 false 195 (by rfl) (by kernel_rfl) (by kernel_rfl) (by kernel_rfl) (fun x hx => by rw [hFy] at hx; exact hx) (fun hc a hr => ?_) (fun hc => ?_) (fun hc => ?_)
      ·have z10 := Rg.read_old hr 10 (by kernel_rfl) (by kernel_rfl); have r10 : a.eval (.tmp 10) = .slice (some ⟨lb, lo, none⟩) (lA.length + lB.length) c4' := z10; clear z10; rw [← hC] at hc; clear hC; generalize a.eval = ρ at *; clear hr; go_simp
      ·rw [← hC] at hc; rw [hFy]; show _ = ite _ _ _; rw [if_pos hc]
      ·rw [← hC] at hc; rw [hFy]; show _ = ite _ _ _; rw [if_neg (by rw [hc]; decide)]
     ·as_aux_lemma =>
      have hC := hC196y.out
      refine Rg.stepR_guarded (.int .i64 ((k : Int))) true B194y 8 false 195 (by rfl) (by kernel_rfl) (by kernel_rfl) (by kernel_rfl) (fun x hx => by rw [hFy] at hx; exact hx) (fun hc a hr => ?_) (fun hc => ?_) (fun hc => ?_)
      ·have z12 := Rg.read_old hr 12 (by kernel_rfl) (by kernel_rfl); have r12 : a.eval (.tmp 12) = .int .i64 ((k : Int)) := z12; clear z12; rw [← hC] at hc; clear hC; generalize a.eval = ρ at *; clear hr; go_simp
      ·rw [← hC] at hc; rw [hFy]; show _ = ite _ _ _; rw [if_pos hc]
      ·rw [← hC] at hc; rw [hFy]; show _ = ite _ _ _; rw [if_neg (by rw [hc]; decide)]
     ·as_aux_lemma =>
      have hC := hC196y.out
      refine Rg.stepR_guarded (.pointer (some ⟨lb, lo + k * 2, none⟩)) true B194y 8 false 195 (by rfl) (by kernel_rfl) (by kernel_rfl) (by kernel_rfl) (fun x hx => by rw [hFy] at hx; exact hx) (fun hc a hr => ?_) (fun hc => ?_) (fun hc => ?_)
      ·have z196 := Rg.read_new hr 196 (by kernel_rfl) (by kernel_rfl); rw [hFy] at z196; have r196 : a.eval (.tmp 196) = if C196y = true then .slice (some ⟨lb, lo, none⟩) (lA.length + lB.length) c4' else undef := z196; clear z196; have z197 := Rg.read_new hr 197 (by kernel_rfl) (by kernel_rfl); rw [hFy] at z197; have r197 : a.eval (.tmp 197) = if C196y = true then .int .i64 ((k : Int)) else undef := z197; clear z197; rw [← hC] at hc; clear hC; rw [if_pos hc] at r196; rw [if_pos hc] at r197; generalize a.eval = ρ at *; clear hr; go_simp
      ·rw [← hC] at hc; rw [hFy]; show _ = ite _ _ _; rw [if_pos hc]
      ·rw [← hC] at hc; rw [hFy]; show _ = ite _ _ _; rw [if_neg (by rw [hc]; decide)]
     ·as_aux_lemma =>
      have hC := hC196y.out
      refine Rg.stepR_guarded (.pointer (some ⟨lb, lo + k * 2, none⟩)) true B194y 8 false 195 (by rfl) (by kernel_rfl) (by kernel_rfl) (by kernel_rfl) (fun x hx => by rw [hFy] at hx; exact hx) (fun hc a hr => ?_) (fun hc => ?_) (fun hc => ?_)
      ·have z198 := Rg.read_new hr 198 (by kernel_rfl) (by kernel_rfl); rw [hFy] at z198; have r198 : a.eval (.tmp 198) = if C196y = true then .pointer (some ⟨lb, lo + k * 2, none⟩) else undef := z198; clear z198; rw [← hC] at hc; clear hC; rw [if_pos hc] at r198; generalize a.eval = ρ at *; clear hr; go_simp
      ·rw [← hC] at hc; rw [hFy]; show _ = ite _ _ _; rw [if_pos hc]
      ·rw [← hC] at hc; rw [hFy]; show _ = ite _ _ _; rw [if_neg (by rw [hc]; decide)]
     ·as_aux_lemma =>
      have hC := hC196y.out
      refine Rg.stepR_guarded (.int .i64 (x0)) true B194y 8 false 195 (by rfl) (by kernel_rfl) (by kernel_rfl) (by kernel_rfl) (fun x hx => by rw [hFy] at hx; exact hx) (fun hc a hr => ?_) (fun hc => ?_) (fun hc => ?_)
      ·have z199 := Rg.read_new hr 199 (by kernel_rfl) (by kernel_rfl); rw [hFy] at z199; have r199 : a.eval (.tmp 199) = if C196y = true then .pointer (some ⟨lb, lo + k * 2, none⟩) else undef := z199; clear z199; rw [← hC] at hc; clear hC; rw [if_pos hc] at r199; generalize a.eval = ρ at *; clear hr; go_simp
      ·rw [← hC] at hc; rw [hFy]; show _ = ite _ _ _; rw [if_pos hc]
      ·rw [← hC] at hc; rw [hFy]; show _ = ite _ _ _; rw [if_neg (by rw [hc]; decide)]
     ·as_aux_lemma =>
      have hC := hC196y.out
      refine Rg.stepR_guarded (.int .i64 (most)) true B194y 8 false 195 (by rfl) (by kernel_rfl) (by kernel_rfl) (by kernel_rfl) (fun x hx => by rw [hFy] at hx; exact hx) (fun hc a hr => ?_) (fun hc => ?_) (fun hc => ?_)
      ·have z11 := Rg.read_old hr 11 (by kernel_rfl) (by kernel_rfl); have r11 : a.eval (.tmp 11) = .int .i64 (most) := z11; clear z11; rw [← hC] at hc; clear hC; generalize a.eval = ρ at *; clear hr; go_simp
      ·rw [← hC] at hc; rw [hFy]; show _ = ite _ _ _; rw [if_pos hc]
      ·rw [← hC] at hc; rw [hFy]; show _ = ite _ _ _; rw [if_neg (by rw [hc]; decide)]
     ·as_aux_lemma =>
      have hC := hC196y.out
      refine Rg.stepR_guarded (.bool B202y) true B194y 8 false 195 (by rfl) (by kernel_rfl) (by kernel_rfl) (by kernel_rfl) (fun x hx => by rw [hFy] at hx; exact hx) (fun hc a hr => ?_) (fun hc => ?_) (fun hc => ?_)
      ·have z200 := Rg.read_new hr 200 (by kernel_rfl) (by kernel_rfl); rw [hFy] at z200; have r200 : a.eval (.tmp 200) = if C196y = true then .int .i64 (x0) else undef := z200; clear z200; have z201 := Rg.read_new hr 201 (by kernel_rfl) (by kernel_rfl); rw [hFy] at z201; have r201 : a.eval (.tmp 201) = if C196y = true then .int .i64 (most) else undef := z201; clear z201; rw [← hC] at hc; clear hC; rw [if_pos hc] at r200; rw [if_pos hc] at r201; rw [show B202y = _ from hB202y.out]; generalize a.eval = ρ at *; clear hr; go_simp
      ·rw [← hC] at hc; rw [hFy]; show _ = ite _ _ _; rw [if_pos hc]
      ·rw [← hC] at hc; rw [hFy]; show _ = ite _ _ _; rw [if_neg (by rw [hc]; decide)]
     ·as_aux_lemma =>
      refine Rg.stepR_free (.bool B203y) (by rfl) (fun a hr => ?_) (by rw [hFy]; rfl)
      have z195 := Rg.read_new hr 195 (by kernel_rfl) (by kernel_rfl); rw [hFy] at z195; have r195 : a.eval (.tmp 195) = .bool B194y := z195; clear z195; have z202 := Rg.read_new hr 202 (by kernel_rfl) (by kernel_rfl); rw [hFy] at z202; have r202 : a.eval (.tmp 202) = if C196y = true then .bool B202y else undef := z202; clear z202; have rc : ∀ v, a.eval (.const v) = v := fun _ => rfl; rw [show B203y = _ from hB203y.out]; have e202 := hC196y.out; clear hr; generalize a.eval = ρ at *; cases B194y <;> simp [e202] at r202 <;> (simp [r195, r202, rc, go_sem, execOp])
     ·as_aux_lemma =>
      refine Rg.stepR_free (.bool B203y) (by rfl) (fun a hr => ?_) (by rw [hFy]; rfl)
      have z203 := Rg.read_new hr 203 (by kernel_rfl) (by kernel_rfl); rw [hFy] at z203; have r203 : a.eval (.tmp 203) = .bool B203y := z203; clear z203; generalize a.eval = ρ at *; clear hr; go_simp
     ·as_aux_lemma =>
      have hC := hC205y.out
      refine Rg.stepR_guarded (.bool fl) true B203y 17 false 204 (by rfl) (by kernel_rfl) (by kernel_rfl) (by kernel_rfl) (fun x hx => by rw [hFy] at hx; exact hx) (fun hc a hr => ?_) (fun hc => ?_) (fun hc => ?_)
      ·have z1 := Rg.read_old hr 1 (by kernel_rfl) (by kernel_rfl); have r1 : a.eval (.tmp 1) = .bool fl := z1; clear z1; rw [← hC] at hc; clear hC; generalize a.eval = ρ at *; clear hr; go_simp
      ·rw [← hC] at hc; rw [hFy]; show _ = ite _ _ _; rw [if_pos hc]
      ·rw [← hC] at hc; rw [hFy]; show _ = ite _ _ _; rw [if_neg (by rw [hc]; decide)]
     ·as_aux_lemma =>
      have hC := hC205y.out
      refine Rg.stepR_guarded (.bool fl) true B203y 17 false 204 (by rfl) (by kernel_rfl) (by kernel_rfl) (by kernel_rfl) (fun x hx => by rw [hFy] at hx; exact hx) (fun hc a hr => ?_) (fun hc => ?_) (fun hc => ?_)
      ·have z205 := Rg.read_new hr 205 (by kernel_rfl) (by kernel_rfl); rw [hFy] at z205; have r205 : a.eval (.tmp 205) = if C205y = true then .bool fl else undef := z205; clear z205; rw [← hC] at hc; clear hC; rw [if_pos hc] at r205; generalize a.eval = ρ at *; clear hr; go_simp
      ·rw [← hC] at hc; rw [hFy]; show _ = ite _ _ _; rw [if_pos hc]
      ·rw [← hC] at hc; rw [hFy]; show _ = ite _ _ _; rw [if_neg (by rw [hc]; decide)]
     ·as_aux_lemma =>
      have hC := hC207y.out
      refine Rg.stepR_guarded (.slice (some ⟨lb, lo, none⟩) (lA.length + lB.length) c4') C205y fl 19 true 206 (by rfl) (by kernel_rfl) (by kernel_rfl) (by kernel_rfl) (fun x hx => by rw [hFy] at hx; exact hx) (fun hc a hr => ?_) (fun hc => ?_) (fun hc => ?_)
      ·have z10 := Rg.read_old hr 10 (by kernel_rfl) (by kernel_rfl); have r10 : a.eval (.tmp 10) = .slice (some ⟨lb, lo, none⟩) (lA.length + lB.length) c4' := z10; clear z10; rw [← hC] at hc; clear hC; generalize a.eval = ρ at *; clear hr; go_simp
      ·rw [← hC] at hc; rw [hFy]; show _ = ite _ _ _; rw [if_pos hc]
      ·rw [← hC] at hc; rw [hFy]; show _ = ite _ _ _; rw [if_neg (by rw [hc]; decide)]
     ·as_aux_lemma =>
      have hC := hC207y.out
      refine Rg.stepR_guarded (.int .i64 ((k : Int))) C205y fl 19 true 206 (by rfl) (by kernel_rfl) (by kernel_rfl) (by kernel_rfl) (fun x hx => by rw [hFy] at hx; exact hx) (fun hc a hr => ?_) (fun hc => ?_) (fun hc => ?_)
      ·have z12 := Rg.read_old hr 12 (by kernel_rfl) (by kernel_rfl); have r12 : a.eval (.tmp 12) = .int .i64 ((k : Int)) := z12; clear z12; rw [← hC] at hc; clear hC; generalize a.eval = ρ at *; clear hr; go_simp
      ·rw [← hC] at hc; rw [hFy]; show _ = ite _ _ _; rw [if_pos hc]
      ·rw [← hC] at hc; rw [hFy]; show _ = ite _ _ _; rw [if_neg (by rw [hc]; decide)]
     ·as_aux_lemma =>
      have hC := hC207y.out
      refine Rg.stepR_guarded (.pointer (some ⟨lb, lo + k * 2, none⟩)) C205y fl 19 true 206 (by rfl) (by kernel_rfl) (by kernel_rfl) (by kernel_rfl) (fun x hx => by rw [hFy] at hx; exact hx) (fun hc a hr => ?_) (fun hc => ?_) (fun hc => ?_)
      ·have z207 := Rg.read_new hr 207 (by kernel_rfl) (by kernel_rfl); rw [hFy] at z207; have r207 : a.eval (.tmp 207) = if C207y = true then .slice (some ⟨lb, lo, none⟩) (lA.length + lB.length) c4' else undef := z207; clear z207; have z208 := Rg.read_new hr 208 (by kernel_rfl) (by kernel_rfl); rw [hFy] at z208; have r208 : a.eval (.tmp 208) = if C207y = true then .int .i64 ((k : Int)) else undef := z208; clear z208; rw [← hC] at hc; clear hC; rw [if_pos hc] at r207; rw [if_pos hc] at r208; generalize a.eval = ρ at *; clear hr; go_simp
      ·rw [← hC] at hc; rw [hFy]; show _ = ite _ _ _; rw [if_pos hc]
      ·rw [← hC] at hc; rw [hFy]; show _ = ite _ _ _; rw [if_neg (by rw [hc]; decide)]
     ·as_aux_lemma =>
      have hC := hC207y.out
      refine Rg.stepR_guarded (.pointer (some ⟨lb, lo + k * 2 + 1, none⟩)) C205y fl 19 true 206 (by rfl) (by kernel_rfl) (by kernel_rfl) (by kernel_rfl) (fun x hx => by rw [hFy] at hx; exact hx) (fun hc a hr => ?_) (fun hc => ?_) (fun hc => ?_)
      ·have z209 := Rg.read_new hr 209 (by kernel_rfl) (by kernel_rfl); rw [hFy] at z209; have r209 : a.eval (.tmp 209) = if C207y = true then .pointer (some ⟨lb, lo + k * 2, none⟩) else undef := z209; clear z209; rw [← hC] at hc; clear hC; rw [if_pos hc] at r209; generalize a.eval = ρ at *; clear hr; go_simp
      ·rw [← hC] at hc; rw [hFy]; show _ = ite _ _ _; rw [if_pos hc]
      ·rw [← hC] at hc; rw [hFy]; show _ = ite _ _ _; rw [if_neg (by rw [hc]; decide)]
     ·as_aux_lemma =>
      have hC := hC207y.out
      refine Rg.stepR_guarded (.int .u64 (x1)) C205y fl 19 true 206 (by rfl) (by kernel_rfl) (by kernel_rfl) (by kernel_rfl) (fun x hx => by rw [hFy] at hx; exact hx) (fun hc a hr => ?_) (fun hc => ?_) (fun hc => ?_)
      ·have z210 := Rg.read_new hr 210 (by kernel_rfl) (by kernel_rfl); rw [hFy] at z210; have r210 : a.eval (.tmp 210) = if C207y = true then .pointer (some ⟨lb, lo + k * 2 + 1, none⟩) else undef := z210; clear z210; rw [← hC] at hc; clear hC; rw [if_pos hc] at r210; generalize a.eval = ρ at *; clear hr; go_simp
      ·rw [← hC] at hc; rw [hFy]; show _ = ite _ _ _; rw [if_pos hc]
      ·rw [← hC] at hc; rw [hFy]; show _ = ite _ _ _; rw [if_neg (by rw [hc]; decide)]
     ·as_aux_lemma =>
      have hC := hC207y.out
      refine Rg.stepR_guarded_wp (.bool B212y) C205y fl 19 true 206 (by rfl) (by kernel_rfl) (by kernel_rfl) (by kernel_rfl) (fun x hx => by rw [hFy] at hx; exact hx) (fun hc a hr => ?_) (fun hc => ?_) (fun hc => ?_)
      ·have z211 := Rg.read_new hr 211 (by kernel_rfl) (by kernel_rfl); rw [hFy] at z211; have r211 : a.eval (.tmp 211) = if C207y = true then .int .u64 (x1) else undef := z211; clear z211; rw [← hC] at hc; clear hC; rw [if_pos hc] at r211; rw [show B212y = _ from hB212y.out]; intro K Q hK; have rf : a.eval (.func 35) = .func (.func 35) #[] #[] := rfl; unfold Oper.wp; generalize hx : a.eval = ρ at *; clear hr; go_simp; refine (plain_any _ _).mono ?_; rintro e w' ⟨rfl, rfl⟩; exact hK
      ·rw [← hC] at hc; rw [hFy]; show _ = ite _ _ _; rw [if_pos hc]
      ·rw [← hC] at hc; rw [hFy]; show _ = ite _ _ _; rw [if_neg (by rw [hc]; decide)]
     ·as_aux_lemma =>
      have hC := hC207y.out
      refine Rg.stepR_guarded (.bool B213y) C205y fl 19 true 206 (by rfl) (by kernel_rfl) (by kernel_rfl) (by kernel_rfl) (fun x hx => by rw [hFy] at hx; exact hx) (fun hc a hr => ?_) (fun hc => ?_) (fun hc => ?_)
      ·have z212 := Rg.read_new hr 212 (by kernel_rfl) (by kernel_rfl); rw [hFy] at z212; have r212 : a.eval (.tmp 212) = if C207y = true then .bool B212y else undef := z212; clear z212; rw [← hC] at hc; clear hC; rw [if_pos hc] at r212; rw [show B213y = _ from hB213y.out]; generalize a.eval = ρ at *; clear hr; go_simp
      ·rw [← hC] at hc; rw [hFy]; show _ = ite _ _ _; rw [if_pos hc]
      ·rw [← hC] at hc; rw [hFy]; show _ = ite _ _ _; rw [if_neg (by rw [hc]; decide)]
     ·as_aux_lemma =>
      have hC := hC205y.out
      refine Rg.stepR_guarded (.bool B214y) true B203y 17 false 204 (by rfl) (by kernel_rfl) (by kernel_rfl) (by kernel_rfl) (fun x hx => by rw [hFy] at hx; exact hx) (fun hc a hr => ?_) (fun hc => ?_) (fun hc => ?_)
      ·have z206 := Rg.read_new hr 206 (by kernel_rfl) (by kernel_rfl); rw [hFy] at z206; have r206 : a.eval (.tmp 206) = if C205y = true then .bool fl else undef := z206; clear z206; have z213 := Rg.read_new hr 213 (by kernel_rfl) (by kernel_rfl); rw [hFy] at z213; have r213 : a.eval (.tmp 213) = if C207y = true then .bool B213y else undef := z213; clear z213; rw [← hC] at hc; clear hC; rw [if_pos hc] at r206; have rc : ∀ v, a.eval (.const v) = v := fun _ => rfl; rw [show B214y = _ from hB214y.out]; have e213 := hC207y.out; rw [hc] at e213; clear hr; generalize a.eval = ρ at *; cases fl <;> simp [e213] at r213 <;> (simp [r206, r213, rc, go_sem, execOp])
      ·rw [← hC] at hc; rw [hFy]; show _ = ite _ _ _; rw [if_pos hc]
      ·rw [← hC] at hc; rw [hFy]; show _ = ite _ _ _; rw [if_neg (by rw [hc]; decide)]
     ·as_aux_lemma =>
      refine Rg.stepR_free (.bool B215y) (by rfl) (fun a hr => ?_) (by rw [hFy]; rfl)
      have z204 := Rg.read_new hr 204 (by kernel_rfl) (by kernel_rfl); rw [hFy] at z204; have r204 : a.eval (.tmp 204) = .bool B203y := z204; clear z204; have z214 := Rg.read_new hr 214 (by kernel_rfl) (by kernel_rfl); rw [hFy] at z214; have r214 : a.eval (.tmp 214) = if C205y = true then .bool B214y else undef := z214; clear z214; have rc : ∀ v, a.eval (.const v) = v := fun _ => rfl; rw [show B215y = _ from hB215y.out]; have e214 := hC205y.out; clear hr; generalize a.eval = ρ at *; cases B203y <;> simp [e214] at r214 <;> (simp [r204, r214, rc, go_sem, execOp])
     ·as_aux_lemma =>
      refine Rg.stepR_free (.bool B215y) (by rfl) (fun a hr => ?_) (by rw [hFy]; rfl)
      have z215 := Rg.read_new hr 215 (by kernel_rfl) (by kernel_rfl); rw [hFy] at z215; have r215 : a.eval (.tmp 215) = .bool B215y := z215; clear z215; generalize a.eval = ρ at *; clear hr; go_simp
     ·as_aux_lemma =>
      have hC := hC217y.out
      refine Rg.stepR_guarded (.bool fl) true B215y 29 false 216 (by rfl) (by kernel_rfl) (by kernel_rfl) (by kernel_rfl) (fun x hx => by rw [hFy] at hx; exact hx) (fun hc a hr => ?_) (fun hc => ?_) (fun hc => ?_)
      ·have z1 := Rg.read_old hr 1 (by kernel_rfl) (by kernel_rfl); have r1 : a.eval (.tmp 1) = .bool fl := z1; clear z1; rw [← hC] at hc; clear hC; generalize a.eval = ρ at *; clear hr; go_simp
      ·rw [← hC] at hc; rw [hFy]; show _ = ite _ _ _; rw [if_pos hc]
      ·rw [← hC] at hc; rw [hFy]; show _ = ite _ _ _; rw [if_neg (by rw [hc]; decide)]
     ·as_aux_lemma =>
      have hC := hC217y.out
      refine Rg.stepR_guarded (.bool B218y) true B215y 29 false 216 (by rfl) (by kernel_rfl) (by kernel_rfl) (by kernel_rfl) (fun x hx => by rw [hFy] at hx; exact hx) (fun hc a hr => ?_) (fun hc => ?_) (fun hc => ?_)
      ·have z217 := Rg.read_new hr 217 (by kernel_rfl) (by kernel_rfl); rw [hFy] at z217; have r217 : a.eval (.tmp 217) = if C217y = true then .bool fl else undef := z217; clear z217; rw [← hC] at hc; clear hC; rw [if_pos hc] at r217; rw [show B218y = _ from hB218y.out]; generalize a.eval = ρ at *; clear hr; go_simp
      ·rw [← hC] at hc; rw [hFy]; show _ = ite _ _ _; rw [if_pos hc]
      ·rw [← hC] at hc; rw [hFy]; show _ = ite _ _ _; rw [if_neg (by rw [hc]; decide)]
     ·as_aux_lemma =>
      have hC := hC217y.out
      refine Rg.stepR_guarded (.bool B218y) true B215y 29 false 216 (by rfl) (by kernel_rfl) (by kernel_rfl) (by kernel_rfl) (fun x hx => by rw [hFy] at hx; exact hx) (fun hc a hr => ?_) (fun hc => ?_) (fun hc => ?_)
      ·have z218 := Rg.read_new hr 218 (by kernel_rfl) (by kernel_rfl); rw [hFy] at z218; have r218 : a.eval (.tmp 218) = if C217y = true then .bool B218y else undef := z218; clear z218; rw [← hC] at hc; clear hC; rw [if_pos hc] at r218; generalize a.eval = ρ at *; clear hr; go_simp
      ·rw [← hC] at hc; rw [hFy]; show _ = ite _ _ _; rw [if_pos hc]
      ·rw [← hC] at hc; rw [hFy]; show _ = ite _ _ _; rw [if_neg (by rw [hc]; decide)]
     ·as_aux_lemma =>
      have hC := hC220y.out
      refine Rg.stepR_guarded (.slice (some ⟨lb, lo, none⟩) (lA.length + lB.length) c4') C217y B218y 32 true 219 (by rfl) (by kernel_rfl) (by kernel_rfl) (by kernel_rfl) (fun x hx => by rw [hFy] at hx; exact hx) (fun hc a hr => ?_) (fun hc => ?_) (fun hc => ?_)
      ·have z10 := Rg.read_old hr 10 (by kernel_rfl) (by kernel_rfl); have r10 : a.eval (.tmp 10) = .slice (some ⟨lb, lo, none⟩) (lA.length + lB.length) c4' := z10; clear z10; rw [← hC] at hc; clear hC; generalize a.eval = ρ at *; clear hr; go_simp
      ·rw [← hC] at hc; rw [hFy]; show _ = ite _ _ _; rw [if_pos hc]
      ·rw [← hC] at hc; rw [hFy]; show _ = ite _ _ _; rw [if_neg (by rw [hc]; decide)]
     ·as_aux_lemma =>
      have hC := hC220y.out
      refine Rg.stepR_guarded (.int .i64 ((k : Int))) C217y B218y 32 true 219 (by rfl) (by kernel_rfl) (by kernel_rfl) (by kernel_rfl) (fun x hx => by rw [hFy] at hx; exact hx) (fun hc a hr => ?_) (fun hc => ?_) (fun hc => ?_)
      ·have z12 := Rg.read_old hr 12 (by kernel_rfl) (by kernel_rfl); have r12 : a.eval (.tmp 12) = .int .i64 ((k : Int)) := z12; clear z12; rw [← hC] at hc; clear hC; generalize a.eval = ρ at *; clear hr; go_simp
      ·rw [← hC] at hc; rw [hFy]; show _ = ite _ _ _; rw [if_pos hc]
      ·rw [← hC] at hc; rw [hFy]; show _ = ite _ _ _; rw [if_neg (by rw [hc]; decide)]
     ·as_aux_lemma =>
      have hC := hC220y.out
      refine Rg.stepR_guarded (.pointer (some ⟨lb, lo + k * 2, none⟩)) C217y B218y 32 true 219 (by rfl) (by kernel_rfl) (by kernel_rfl) (by kernel_rfl) (fun x hx => by rw [hFy] at hx; exact hx) (fun hc a hr => ?_) (fun hc => ?_) (fun hc => ?_)
      ·have z220 := Rg.read_new hr 220 (by kernel_rfl) (by kernel_rfl); rw [hFy] at z220; have r220 : a.eval (.tmp 220) = if C220y = true then .slice (some ⟨lb, lo, none⟩) (lA.length + lB.length) c4' else undef := z220; clear z220; have z221 := Rg.read_new hr 221 (by kernel_rfl) (by kernel_rfl); rw [hFy] at z221; have r221 : a.eval (.tmp 221) = if C220y = true then .int .i64 ((k : Int)) else undef := z221; clear z221; rw [← hC] at hc; clear hC; rw [if_pos hc] at r220; rw [if_pos hc] at r221; generalize a.eval = ρ at *; clear hr; go_simp
      ·rw [← hC] at hc; rw [hFy]; show _ = ite _ _ _; rw [if_pos hc]
      ·rw [← hC] at hc; rw [hFy]; show _ = ite _ _ _; rw [if_neg (by rw [hc]; decide)]
     ·as_aux_lemma =>
      have hC := hC220y.out
      refine Rg.stepR_guarded (.pointer (some ⟨lb, lo + k * 2 + 1, none⟩)) C217y B218y 32 true 219 (by rfl) (by kernel_rfl) (by kernel_rfl) (by kernel_rfl) (fun x hx => by rw [hFy] at hx; exact hx) (fun hc a hr => ?_) (fun hc => ?_) (fun hc => ?_)
      ·have z222 := Rg.read_new hr 222 (by kernel_rfl) (by kernel_rfl); rw [hFy] at z222; have r222 : a.eval (.tmp 222) = if C220y = true then .pointer (some ⟨lb, lo + k * 2, none⟩) else undef := z222; clear z222; rw [← hC] at hc; clear hC; rw [if_pos hc] at r222; generalize a.eval = ρ at *; clear hr; go_simp
      ·rw [← hC] at hc; rw [hFy]; show _ = ite _ _ _; rw [if_pos hc]
      ·rw [← hC] at hc; rw [hFy]; show _ = ite _ _ _; rw [if_neg (by rw [hc]; decide)]
     ·as_aux_lemma =>
      have hC := hC220y.out
      refine Rg.stepR_guarded (.int .u64 (x1)) C217y B218y 32 true 219 (by rfl) (by kernel_rfl) (by kernel_rfl) (by kernel_rfl) (fun x hx => by rw [hFy] at hx; exact hx) (fun hc a hr => ?_) (fun hc => ?_) (fun hc => ?_)
      ·have z223 := Rg.read_new hr 223 (by kernel_rfl) (by kernel_rfl); rw [hFy] at z223; have r223 : a.eval (.tmp 223) = if C220y = true then .pointer (some ⟨lb, lo + k * 2 + 1, none⟩) else undef := z223; clear z223; rw [← hC] at hc; clear hC; rw [if_pos hc] at r223; generalize a.eval = ρ at *; clear hr; go_simp
      ·rw [← hC] at hc; rw [hFy]; show _ = ite _ _ _; rw [if_pos hc]
      ·rw [← hC] at hc; rw [hFy]; show _ = ite _ _ _; rw [if_neg (by rw [hc]; decide)]
     ·as_aux_lemma =>
      have hC := hC220y.out
      refine Rg.stepR_guarded (.bool B225y) C217y B218y 32 true 219 (by rfl) (by kernel_rfl) (by kernel_rfl) (by kernel_rfl) (fun x hx => by rw [hFy] at hx; exact hx) (fun hc a hr => ?_) (fun hc => ?_) (fun hc => ?_)
      ·have z224 := Rg.read_new hr 224 (by kernel_rfl) (by kernel_rfl); rw [hFy] at z224; have r224 : a.eval (.tmp 224) = if C220y = true then .int .u64 (x1) else undef := z224; clear z224; rw [← hC] at hc; clear hC; rw [if_pos hc] at r224; have rc : ∀ v, a.eval (.const v) = v := fun _ => rfl; rw [show B225y = _ from hB225y.out]; generalize a.eval = ρ at *; clear hr; go_simp
      ·rw [← hC] at hc; rw [hFy]; show _ = ite _ _ _; rw [if_pos hc]
      ·rw [← hC] at hc; rw [hFy]; show _ = ite _ _ _; rw [if_neg (by rw [hc]; decide)]
     ·as_aux_lemma =>
      have hC := hC217y.out
      refine Rg.stepR_guarded (.bool B226y) true B215y 29 false 216 (by rfl) (by kernel_rfl) (by kernel_rfl) (by kernel_rfl) (fun x hx => by rw [hFy] at hx; exact hx) (fun hc a hr => ?_) (fun hc => ?_) (fun hc => ?_)
      ·have z219 := Rg.read_new hr 219 (by kernel_rfl) (by kernel_rfl); rw [hFy] at z219; have r219 : a.eval (.tmp 219) = if C217y = true then .bool B218y else undef := z219; clear z219; have z225 := Rg.read_new hr 225 (by kernel_rfl) (by kernel_rfl); rw [hFy] at z225; have r225 : a.eval (.tmp 225) = if C220y = true then .bool B225y else undef := z225; clear z225; rw [← hC] at hc; clear hC; rw [if_pos hc] at r219; have rc : ∀ v, a.eval (.const v) = v := fun _ => rfl; rw [show B226y = _ from hB226y.out]; have e225 := hC220y.out; rw [hc] at e225; clear hr; generalize a.eval = ρ at *; cases B218y <;> simp [e225] at r225 <;> (simp [r219, r225, rc, go_sem, execOp])
      ·rw [← hC] at hc; rw [hFy]; show _ = ite _ _ _; rw [if_pos hc]
      ·rw [← hC] at hc; rw [hFy]; show _ = ite _ _ _; rw [if_neg (by rw [hc]; decide)]
     ·as_aux_lemma =>
      refine Rg.stepR_free (.bool B227y) (by rfl) (fun a hr => ?_) (by rw [hFy]; rfl)
      have z216 := Rg.read_new hr 216 (by kernel_rfl) (by kernel_rfl); rw [hFy] at z216; have r216 : a.eval (.tmp 216) = .bool B215y := z216; clear z216; have z226 := Rg.read_new hr 226 (by kernel_rfl) (by kernel_rfl); rw [hFy] at z226; have r226 : a.eval (.tmp 226) = if C217y = true then .bool B226y else undef := z226; clear z226; have rc : ∀ v, a.eval (.const v) = v := fun _ => rfl; rw [show B227y = _ from hB227y.out]; have e226 := hC217y.out; clear hr; generalize a.eval = ρ at *; cases B215y <;> simp [e226] at r226 <;> (simp [r216, r226, rc, go_sem, execOp])
     ·as_aux_lemma =>
      refine Rg.stepR_free (.bool B227y) (by rfl) (fun a hr => ?_) (by rw [hFy]; rfl)
      have z227 := Rg.read_new hr 227 (by kernel_rfl) (by kernel_rfl); rw [hFy] at z227; have r227 : a.eval (.tmp 227) = .bool B227y := z227; clear z227; generalize a.eval = ρ at *; clear hr; go_simp
     ·as_aux_lemma =>
      have hC := hC229y.out
      refine Rg.stepR_guarded (.bool cus) true B227y 41 false 228 (by rfl) (by kernel_rfl) (by kernel_rfl) (by kernel_rfl) (fun x hx => by rw [hFy] at hx; exact hx) (fun hc a hr => ?_) (fun hc => ?_) (fun hc => ?_)
      ·have z5 := Rg.read_old hr 5 (by kernel_rfl) (by kernel_rfl); have r5 : a.eval (.tmp 5) = .bool cus := z5; clear z5; rw [← hC] at hc; clear hC; generalize a.eval = ρ at *; clear hr; go_simp
      ·rw [← hC] at hc; rw [hFy]; show _ = ite _ _ _; rw [if_pos hc]
      ·rw [← hC] at hc; rw [hFy]; show _ = ite _ _ _; rw [if_neg (by rw [hc]; decide)]
     ·as_aux_lemma =>
      have hC := hC229y.out
      refine Rg.stepR_guarded (.bool cus) true B227y 41 false 228 (by rfl) (by kernel_rfl) (by kernel_rfl) (by kernel_rfl) (fun x hx => by rw [hFy] at hx; exact hx) (fun hc a hr => ?_) (fun hc => ?_) (fun hc => ?_)
      ·have z229 := Rg.read_new hr 229 (by kernel_rfl) (by kernel_rfl); rw [hFy] at z229; have r229 : a.eval (.tmp 229) = if C229y = true then .bool cus else undef := z229; clear z229; rw [← hC] at hc; clear hC; rw [if_pos hc] at r229; generalize a.eval = ρ at *; clear hr; go_simp
      ·rw [← hC] at hc; rw [hFy]; show _ = ite _ _ _; rw [if_pos hc]
      ·rw [← hC] at hc; rw [hFy]; show _ = ite _ _ _; rw [if_neg (by rw [hc]; decide)]
     ·as_aux_lemma =>
      have hC := hC231y.out
      refine Rg.stepR_guarded (.slice (some ⟨lb, lo, none⟩) (lA.length + lB.length) c4') C229y cus 43 true 230 (by rfl) (by kernel_rfl) (by kernel_rfl) (by kernel_rfl) (fun x hx => by rw [hFy] at hx; exact hx) (fun hc a hr => ?_) (fun hc => ?_) (fun hc => ?_)
      ·have z10 := Rg.read_old hr 10 (by kernel_rfl) (by kernel_rfl); have r10 : a.eval (.tmp 10) = .slice (some ⟨lb, lo, none⟩) (lA.length + lB.length) c4' := z10; clear z10; rw [← hC] at hc; clear hC; generalize a.eval = ρ at *; clear hr; go_simp
      ·rw [← hC] at hc; rw [hFy]; show _ = ite _ _ _; rw [if_pos hc]
      ·rw [← hC] at hc; rw [hFy]; show _ = ite _ _ _; rw [if_neg (by rw [hc]; decide)]
     ·as_aux_lemma =>
      have hC := hC231y.out
      refine Rg.stepR_guarded (.int .i64 ((k : Int))) C229y cus 43 true 230 (by rfl) (by kernel_rfl) (by kernel_rfl) (by kernel_rfl) (fun x hx => by rw [hFy] at hx; exact hx) (fun hc a hr => ?_) (fun hc => ?_) (fun hc => ?_)
      ·have z12 := Rg.read_old hr 12 (by kernel_rfl) (by kernel_rfl); have r12 : a.eval (.tmp 12) = .int .i64 ((k : Int)) := z12; clear z12; rw [← hC] at hc; clear hC; generalize a.eval = ρ at *; clear hr; go_simp
      ·rw [← hC] at hc; rw [hFy]; show _ = ite _ _ _; rw [if_pos hc]
      ·rw [← hC] at hc; rw [hFy]; show _ = ite _ _ _; rw [if_neg (by rw [hc]; decide)]
     ·as_aux_lemma =>
      have hC := hC231y.out
      refine Rg.stepR_guarded (.pointer (some ⟨lb, lo + k * 2, none⟩)) C229y cus 43 true 230 (by rfl) (by kernel_rfl) (by kernel_rfl) (by kernel_rfl) (fun x hx => by rw [hFy] at hx; exact hx) (fun hc a hr => ?_) (fun hc => ?_) (fun hc => ?_)
      ·have z231 := Rg.read_new hr 231 (by kernel_rfl) (by kernel_rfl); rw [hFy] at z231; have r231 : a.eval (.tmp 231) = if C231y = true then .slice (some ⟨lb, lo, none⟩) (lA.length + lB.length) c4' else undef := z231; clear z231; have z232 := Rg.read_new hr 232 (by kernel_rfl) (by kernel_rfl); rw [hFy] at z232; have r232 : a.eval (.tmp 232) = if C231y = true then .int .i64 ((k : Int)) else undef := z232; clear z232; rw [← hC] at hc; clear hC; rw [if_pos hc] at r231; rw [if_pos hc] at r232; generalize a.eval = ρ at *; clear hr; go_simp
      ·rw [← hC] at hc; rw [hFy]; show _ = ite _ _ _; rw [if_pos hc]
      ·rw [← hC] at hc; rw [hFy]; show _ = ite _ _ _; rw [if_neg (by rw [hc]; decide)]
     ·as_aux_lemma =>
      have hC := hC231y.out
      refine Rg.stepR_guarded (.pointer (some ⟨lb, lo + k * 2, none⟩)) C229y cus 43 true 230 (by rfl) (by kernel_rfl) (by kernel_rfl) (by kernel_rfl) (fun x hx => by rw [hFy] at hx; exact hx) (fun hc a hr => ?_) (fun hc => ?_) (fun hc => ?_)
      ·have z233 := Rg.read_new hr 233 (by kernel_rfl) (by kernel_rfl); rw [hFy] at z233; have r233 : a.eval (.tmp 233) = if C231y = true then .pointer (some ⟨lb, lo + k * 2, none⟩) else undef := z233; clear z233; rw [← hC] at hc; clear hC; rw [if_pos hc] at r233; generalize a.eval = ρ at *; clear hr; go_simp
      ·rw [← hC] at hc; rw [hFy]; show _ = ite _ _ _; rw [if_pos hc]
      ·rw [← hC] at hc; rw [hFy]; show _ = ite _ _ _; rw [if_neg (by rw [hc]; decide)]
     ·as_aux_lemma =>
      have hC := hC231y.out
      refine Rg.stepR_guarded (.int .i64 (x0)) C229y cus 43 true 230 (by rfl) (by kernel_rfl) (by kernel_rfl) (by kernel_rfl) (fun x hx => by rw [hFy] at hx; exact hx) (fun hc a hr => ?_) (fun hc => ?_) (fun hc => ?_)
      ·have z234 := Rg.read_new hr 234 (by kernel_rfl) (by kernel_rfl); rw [hFy] at z234; have r234 : a.eval (.tmp 234) = if C231y = true then .pointer (some ⟨lb, lo + k * 2, none⟩) else undef := z234; clear z234; rw [← hC] at hc; clear hC; rw [if_pos hc] at r234; generalize a.eval = ρ at *; clear hr; go_simp
      ·rw [← hC] at hc; rw [hFy]; show _ = ite _ _ _; rw [if_pos hc]
      ·rw [← hC] at hc; rw [hFy]; show _ = ite _ _ _; rw [if_neg (by rw [hc]; decide)]
     ·as_aux_lemma =>
      have hC := hC231y.out
      refine Rg.stepR_guarded (.bool B236y) C229y cus 43 true 230 (by rfl) (by kernel_rfl) (by kernel_rfl) (by kernel_rfl) (fun x hx => by rw [hFy] at hx; exact hx) (fun hc a hr => ?_) (fun hc => ?_) (fun hc => ?_)
      ·have z235 := Rg.read_new hr 235 (by kernel_rfl) (by kernel_rfl); rw [hFy] at z235; have r235 : a.eval (.tmp 235) = if C231y = true then .int .i64 (x0) else undef := z235; clear z235; rw [← hC] at hc; clear hC; rw [if_pos hc] at r235; have rc : ∀ v, a.eval (.const v) = v := fun _ => rfl; rw [show B236y = _ from hB236y.out]; generalize a.eval = ρ at *; clear hr; go_simp
      ·rw [← hC] at hc; rw [hFy]; show _ = ite _ _ _; rw [if_pos hc]
      ·rw [← hC] at hc; rw [hFy]; show _ = ite _ _ _; rw [if_neg (by rw [hc]; decide)]
     ·as_aux_lemma =>
      have hC := hC231y.out
      refine Rg.stepR_guarded (.bool B236y) C229y cus 43 true 230 (by rfl) (by kernel_rfl) (by kernel_rfl) (by kernel_rfl) (fun x hx => by rw [hFy] at hx; exact hx) (fun hc a hr => ?_) (fun hc => ?_) (fun hc => ?_)
      ·have z236 := Rg.read_new hr 236 (by kernel_rfl) (by kernel_rfl); rw [hFy] at z236; have r236 : a.eval (.tmp 236) = if C231y = true then .bool B236y else undef := z236; clear z236; rw [← hC] at hc; clear hC; rw [if_pos hc] at r236; generalize a.eval = ρ at *; clear hr; go_simp
      ·rw [← hC] at hc; rw [hFy]; show _ = ite _ _ _; rw [if_pos hc]
      ·rw [← hC] at hc; rw [hFy]; show _ = ite _ _ _; rw [if_neg (by rw [hc]; decide)]
     ·as_aux_lemma =>
      have hC := hC238y.out
      refine Rg.stepR_guarded (.slice (some ⟨lb, lo, none⟩) (lA.length + lB.length) c4') C231y B236y 50 false 237 (by rfl) (by kernel_rfl) (by kernel_rfl) (by kernel_rfl) (fun x hx => by rw [hFy] at hx; exact hx) (fun hc a hr => ?_) (fun hc => ?_) (fun hc => ?_)
      ·have z10 := Rg.read_old hr 10 (by kernel_rfl) (by kernel_rfl); have r10 : a.eval (.tmp 10) = .slice (some ⟨lb, lo, none⟩) (lA.length + lB.length) c4' := z10; clear z10; rw [← hC] at hc; clear hC; generalize a.eval = ρ at *; clear hr; go_simp
      ·rw [← hC] at hc; rw [hFy]; show _ = ite _ _ _; rw [if_pos hc]
      ·rw [← hC] at hc; rw [hFy]; show _ = ite _ _ _; rw [if_neg (by rw [hc]; decide)]
     ·as_aux_lemma =>
      have hC := hC238y.out
      refine Rg.stepR_guarded (.int .i64 ((k : Int))) C231y B236y 50 false 237 (by rfl) (by kernel_rfl) (by kernel_rfl) (by kernel_rfl) (fun x hx => by rw [hFy] at hx; exact hx) (fun hc a hr => ?_) (fun hc => ?_) (fun hc => ?_)
      ·have z12 := Rg.read_old hr 12 (by kernel_rfl) (by kernel_rfl); have r12 : a.eval (.tmp 12) = .int .i64 ((k : Int)) := z12; clear z12; rw [← hC] at hc; clear hC; generalize a.eval = ρ at *; clear hr; go_simp
      ·rw [← hC] at hc; rw [hFy]; show _ = ite _ _ _; rw [if_pos hc]
      ·rw [← hC] at hc; rw [hFy]; show _ = ite _ _ _; rw [if_neg (by rw [hc]; decide)]
     ·as_aux_lemma =>
      have hC := hC238y.out
      refine Rg.stepR_guarded (.pointer (some ⟨lb, lo + k * 2, none⟩)) C231y B236y 50 false 237 (by rfl) (by kernel_rfl) (by kernel_rfl) (by kernel_rfl) (fun x hx => by rw [hFy] at hx; exact hx) (fun hc a hr => ?_) (fun hc => ?_) (fun hc => ?_)
      ·have z238 := Rg.read_new hr 238 (by kernel_rfl) (by kernel_rfl); rw [hFy] at z238; have r238 : a.eval (.tmp 238) = if C238y = true then .slice (some ⟨lb, lo, none⟩) (lA.length + lB.length) c4' else undef := z238; clear z238; have z239 := Rg.read_new hr 239 (by kernel_rfl) (by kernel_rfl); rw [hFy] at z239; have r239 : a.eval (.tmp 239) = if C238y = true then .int .i64 ((k : Int)) else undef := z239; clear z239; rw [← hC] at hc; clear hC; rw [if_pos hc] at r238; rw [if_pos hc] at r239; generalize a.eval = ρ at *; clear hr; go_simp
      ·rw [← hC] at hc; rw [hFy]; show _ = ite _ _ _; rw [if_pos hc]
      ·rw [← hC] at hc; rw [hFy]; show _ = ite _ _ _; rw [if_neg (by rw [hc]; decide)]
     ·as_aux_lemma =>
      have hC := hC238y.out
      refine Rg.stepR_guarded (.pointer (some ⟨lb, lo + k * 2, none⟩)) C231y B236y 50 false 237 (by rfl) (by kernel_rfl) (by kernel_rfl) (by kernel_rfl) (fun x hx => by rw [hFy] at hx; exact hx) (fun hc a hr => ?_) (fun hc => ?_) (fun hc => ?_)
      ·have z240 := Rg.read_new hr 240 (by kernel_rfl) (by kernel_rfl); rw [hFy] at z240; have r240 : a.eval (.tmp 240) = if C238y = true then .pointer (some ⟨lb, lo + k * 2, none⟩) else undef := z240; clear z240; rw [← hC] at hc; clear hC; rw [if_pos hc] at r240; generalize a.eval = ρ at *; clear hr; go_simp
      ·rw [← hC] at hc; rw [hFy]; show _ = ite _ _ _; rw [if_pos hc]
      ·rw [← hC] at hc; rw [hFy]; show _ = ite _ _ _; rw [if_neg (by rw [hc]; decide)]
     ·as_aux_lemma =>
      have hC := hC238y.out
      refine Rg.stepR_guarded (.int .i64 (x0)) C231y B236y 50 false 237 (by rfl) (by kernel_rfl) (by kernel_rfl) (by kernel_rfl) (fun x hx => by rw [hFy] at hx; exact hx) (fun hc a hr => ?_) (fun hc => ?_) (fun hc => ?_)
      ·have z241 := Rg.read_new hr 241 (by kernel_rfl) (by kernel_rfl); rw [hFy] at z241; have r241 : a.eval (.tmp 241) = if C238y = true then .pointer (some ⟨lb, lo + k * 2, none⟩) else undef := z241; clear z241; rw [← hC] at hc; clear hC; rw [if_pos hc] at r241; generalize a.eval = ρ at *; clear hr; go_simp
      ·rw [← hC] at hc; rw [hFy]; show _ = ite _ _ _; rw [if_pos hc]
      ·rw [← hC] at hc; rw [hFy]; show _ = ite _ _ _; rw [if_neg (by rw [hc]; decide)]
     ·as_aux_lemma =>
      have hC := hC238y.out
      refine Rg.stepR_guarded (.pointer (some ⟨w.heap.size, 12, none⟩)) C231y B236y 50 false 237 (by rfl) (by kernel_rfl) (by kernel_rfl) (by kernel_rfl) (fun x hx => by rw [hFy] at hx; exact hx) (fun hc a hr => ?_) (fun hc => ?_) (fun hc => ?_)
      ·have z2 := Rg.read_old hr 2 (by kernel_rfl) (by kernel_rfl); have r2 : a.eval (.tmp 2) = .pointer (some ⟨w.heap.size, 0, none⟩) := z2; clear z2; rw [← hC] at hc; clear hC; generalize a.eval = ρ at *; clear hr; go_simp
      ·rw [← hC] at hc; rw [hFy]; show _ = ite _ _ _; rw [if_pos hc]
      ·rw [← hC] at hc; rw [hFy]; show _ = ite _ _ _; rw [if_neg (by rw [hc]; decide)]
     ·as_aux_lemma =>
      have hC := hC238y.out
      refine Rg.stepR_guarded (.slice a7 h.cus.length c7) C231y B236y 50 false 237 (by rfl) (by kernel_rfl) (by kernel_rfl) (by kernel_rfl) (fun x hx => by rw [hFy] at hx; exact hx) (fun hc a hr => ?_) (fun hc => ?_) (fun hc => ?_)
      ·have z243 := Rg.read_new hr 243 (by kernel_rfl) (by kernel_rfl); rw [hFy] at z243; have r243 : a.eval (.tmp 243) = if C238y = true then .pointer (some ⟨w.heap.size, 12, none⟩) else undef := z243; clear z243; rw [← hC] at hc; clear hC; rw [if_pos hc] at r243; generalize a.eval = ρ at *; clear hr; go_simp
      ·rw [← hC] at hc; rw [hFy]; show _ = ite _ _ _; rw [if_pos hc]
      ·rw [← hC] at hc; rw [hFy]; show _ = ite _ _ _; rw [if_neg (by rw [hc]; decide)]
     ·as_aux_lemma =>
      have hC := hC238y.out
      refine Rg.stepR_guarded (.int .i64 ((h.cus.length : Int))) C231y B236y 50 false 237 (by rfl) (by kernel_rfl) (by kernel_rfl) (by kernel_rfl) (fun x hx => by rw [hFy] at hx; exact hx) (fun hc a hr => ?_) (fun hc => ?_) (fun hc => ?_)
      ·have z244 := Rg.read_new hr 244 (by kernel_rfl) (by kernel_rfl); rw [hFy] at z244; have r244 : a.eval (.tmp 244) = if C238y = true then .slice a7 h.cus.length c7 else undef := z244; clear z244; rw [← hC] at hc; clear hC; rw [if_pos hc] at r244; generalize a.eval = ρ at *; clear hr; go_simp
      ·rw [← hC] at hc; rw [hFy]; show _ = ite _ _ _; rw [if_pos hc]
      ·rw [← hC] at hc; rw [hFy]; show _ = ite _ _ _; rw [if_neg (by rw [hc]; decide)]
     ·as_aux_lemma =>
      have hC := hC238y.out
      refine Rg.stepR_guarded (.bool B246y) C231y B236y 50 false 237 (by rfl) (by kernel_rfl) (by kernel_rfl) (by kernel_rfl) (fun x hx => by rw [hFy] at hx; exact hx) (fun hc a hr => ?_) (fun hc => ?_) (fun hc => ?_)
      ·have z242 := Rg.read_new hr 242 (by kernel_rfl) (by kernel_rfl); rw [hFy] at z242; have r242 : a.eval (.tmp 242) = if C238y = true then .int .i64 (x0) else undef := z242; clear z242; have z245 := Rg.read_new hr 245 (by kernel_rfl) (by kernel_rfl); rw [hFy] at z245; have r245 : a.eval (.tmp 245) = if C238y = true then .int .i64 ((h.cus.length : Int)) else undef := z245; clear z245; rw [← hC] at hc; clear hC; rw [if_pos hc] at r242; rw [if_pos hc] at r245; rw [show B246y = _ from hB246y.out]; generalize a.eval = ρ at *; clear hr; go_simp
      ·rw [← hC] at hc; rw [hFy]; show _ = ite _ _ _; rw [if_pos hc]
      ·rw [← hC] at hc; rw [hFy]; show _ = ite _ _ _; rw [if_neg (by rw [hc]; decide)]
     ·as_aux_lemma =>
      have hC := hC231y.out
      refine Rg.stepR_guarded (.bool B247y) C229y cus 43 true 230 (by rfl) (by kernel_rfl) (by kernel_rfl) (by kernel_rfl) (fun x hx => by rw [hFy] at hx; exact hx) (fun hc a hr => ?_) (fun hc => ?_) (fun hc => ?_)
      ·have z237 := Rg.read_new hr 237 (by kernel_rfl) (by kernel_rfl); rw [hFy] at z237; have r237 : a.eval (.tmp 237) = if C231y = true then .bool B236y else undef := z237; clear z237; have z246 := Rg.read_new hr 246 (by kernel_rfl) (by kernel_rfl); rw [hFy] at z246; have r246 : a.eval (.tmp 246) = if C238y = true then .bool B246y else undef := z246; clear z246; rw [← hC] at hc; clear hC; rw [if_pos hc] at r237; have rc : ∀ v, a.eval (.const v) = v := fun _ => rfl; rw [show B247y = _ from hB247y.out]; have e246 := hC238y.out; rw [hc] at e246; clear hr; generalize a.eval = ρ at *; cases B236y <;> simp [e246] at r246 <;> (simp [r237, r246, rc, go_sem, execOp])
      ·rw [← hC] at hc; rw [hFy]; show _ = ite _ _ _; rw [if_pos hc]
      ·rw [← hC] at hc; rw [hFy]; show _ = ite _ _ _; rw [if_neg (by rw [hc]; decide)]
     ·as_aux_lemma =>
      have hC := hC229y.out
      refine Rg.stepR_guarded (.bool B248y) true B227y 41 false 228 (by rfl) (by kernel_rfl) (by kernel_rfl) (by kernel_rfl) (fun x hx => by rw [hFy] at hx; exact hx) (fun hc a hr => ?_) (fun hc => ?_) (fun hc => ?_)
      ·have z230 := Rg.read_new hr 230 (by kernel_rfl) (by kernel_rfl); rw [hFy] at z230; have r230 : a.eval (.tmp 230) = if C229y = true then .bool cus else undef := z230; clear z230; have z247 := Rg.read_new hr 247 (by kernel_rfl) (by kernel_rfl); rw [hFy] at z247; have r247 : a.eval (.tmp 247) = if C231y = true then .bool B247y else undef := z247; clear z247; rw [← hC] at hc; clear hC; rw [if_pos hc] at r230; have rc : ∀ v, a.eval (.const v) = v := fun _ => rfl; rw [show B248y = _ from hB248y.out]; have e247 := hC231y.out; rw [hc] at e247; clear hr; generalize a.eval = ρ at *; cases cus <;> simp [e247] at r247 <;> (simp [r230, r247, rc, go_sem, execOp])
      ·rw [← hC] at hc; rw [hFy]; show _ = ite _ _ _; rw [if_pos hc]
      ·rw [← hC] at hc; rw [hFy]; show _ = ite _ _ _; rw [if_neg (by rw [hc]; decide)]
     ·as_aux_lemma =>
      refine Rg.stepR_free (.bool B249y) (by rfl) (fun a hr => ?_) (by rw [hFy]; rfl)
      have z228 := Rg.read_new hr 228 (by kernel_rfl) (by kernel_rfl); rw [hFy] at z228; have r228 : a.eval (.tmp 228) = .bool B227y := z228; clear z228; have z248 := Rg.read_new hr 248 (by kernel_rfl) (by kernel_rfl); rw [hFy] at z248; have r248 : a.eval (.tmp 248) = if C229y = true then .bool B248y else undef := z248; clear z248; have rc : ∀ v, a.eval (.const v) = v := fun _ => rfl; rw [show B249y = _ from hB249y.out]; have e248 := hC229y.out; clear hr; generalize a.eval = ρ at *; cases B227y <;> simp [e248] at r248 <;> (simp [r228, r248, rc, go_sem, execOp])
    intro uy huy
    have e249 : uy 249 = .bool B249y := by have z := huy 249 (by rfl); rw [hFy] at z; exact z
    clear huy
    simp only [e249]
    clear e249
    have HG : Hid (B249y = false → GoodB fl cus most h.cus.length (x0, x1)) := fun hc => by
     have z := hB249y.out.symm.trans hc
     simp only [hB194y.out, hB202y.out, hB203y.out, hB212y.out, hB213y.out, hB214y.out, hB215y.out, hB218y.out, hB225y.out, hB226y.out, hB227y.out, hB236y.out, hB246y.out, hB247y.out, hB248y.out, Bool.or_eq_false_iff, Bool.and_eq_false_imp, Bool.not_eq_true', Bool.not_eq_false', decide_eq_false_iff_not, beq_eq_false_iff_ne] at z
     obtain ⟨⟨⟨⟨z1, z2⟩, z3⟩, z4⟩, z5⟩ := z
     exact ⟨by omega, by omega, z3, fun hf => by have := z4 hf; omega, fun hc => by have := (z5 hc).1; have := (z5 hc).2; constructor <;> omega⟩
    clear hFy hB194y hC196y hB202y hB203y hC205y hC207y hB212y hB213y hB214y hB215y hC217y hB218y hC220y hB225y hB226y hB227y hC229y hC231y hB236y hC238y hB246y hB247y hB248y hB249y
    cases B249y with
    | true =>
     go_wp2
     go_ret
     exact fitPost_no hbel.drew
    | false =>
     go_wp2
     go_roundw
     case rel =>
      refine ⟨k + 1, by omega, by simp, fun j x hj hx => ?_, hbel.drew, hbel4.drew⟩
      by_cases hjk : j = k
      ·subst hjk
       rw [HX'.out] at hx
       cases hx
       exact HG.out rfl
      ·exact hgood j x (by omega) hx
     case measure => simp [intOf]; omega
   ·have HGA : Hid (∀ x ∈ lA ++ lB, GoodB fl cus most h.cus.length x) := fun x hx => by
     obtain ⟨j, hj, rfl⟩ := List.getElem_of_mem hx
     exact hgood j _ (by rw [HLl.out] at hj; omega) (List.getElem?_eq_getElem hj)
    have hcusl := hf.cus
    have hcu := ha.cus.below hbel (Nat.le_refl _)
    have e12 := (hbel4.cell (p := ⟨w.heap.size, 12, none⟩) hqn).trans hq12
    have HB1 := Lib.hid hbel
    clear hgood hL hq12
    have hq5 := keep13 hbel4 hqn hq4
    have HQ5 := Lib.hid hq5
    clear hq5 hq4
    have hkn : ¬ ((k : Int) < (lA.length : Int) + (lB.length : Int)) := by omega
    go_wp2_with fail
    clear hlt hk hkn
    generalize hwr : wr = w5 at *
    clear hwr
    go_loopw [13] (fun i wr => ∃ n2 : Nat, n2 ≤ h.cus.length ∧ i = .int .i64 n2 ∧ (∀ j (hj : j < h.cus.length), j < n2 → GoodC h.cus j hj) ∧ Below w5.heap.size w5 wr) (fun i _ => h.cus.length - (intOf i).toNat)
    case atStart => exact ⟨0, Nat.zero_le _, rfl, fun j _ hj => absurd hj (Nat.not_lt_zero _), Below.refl _ _⟩
    case round => as_aux_lemma =>
     obtain ⟨n2, hk, rfl, hgood, hbel5⟩ := hrel
     have hqn5 : w.heap.size < w5.heap.size := Nat.lt_of_lt_of_le hqn hbel4.size
     have d12 := (hbel5.cell (p := ⟨w.heap.size, 12, none⟩) hqn5).trans e12
     by_cases hlt : n2 < h.cus.length
     ·obtain ⟨cb, co, rfl, hcb1, hcb2, hcc⟩ := hcu.at_ (by simp; omega)
      have hcb5 : cb < w5.heap.size := Nat.lt_of_lt_of_le hcb1 (Nat.le_trans (Nat.le_of_lt hqn) hbel4.size)
      have e0 := (hbel5.cell (p := ⟨cb, co + n2, none⟩) hcb5).trans (hcc n2 (by simpa using hlt))
      have ep : 0 < n2 → wr.cell? ⟨cb, co + (n2 - 1), none⟩ = some (.int .u64 ((h.cus.getD (n2 - 1) 0 : Nat) : Int)) := fun hk0 => by
       have hlk : n2 - 1 < h.cus.length := by omega
       rw [(hbel5.cell (p := ⟨cb, co + (n2 - 1), none⟩) hcb5).trans (hcc (n2 - 1) (by simpa using hlk)), List.getElem_map, List.getD_eq_getElem?_getD, List.getElem?_eq_getElem hlk]
       rfl
      rw [List.getElem_map] at e0
      change _ = some (Value.int .u64 ((h.cus[n2] : Nat) : Int)) at e0
      have HC0 : Hid (∀ x y, x = h.cus[n2] → y = h.cus.getD (n2 - 1) 0 → (finite x = true ∧ x ≠ 9223372036854775808 ∧ (0 < n2 → (FloatKind.f64.format.order y x == some .lt) = true)) → GoodC h.cus n2 hlt) := fun x y hx hy hz => by subst hx; subst hy; exact hz
      have HP := Lib.hid ep
      clear ep hcc
      have HX1 : ∃ x, Hid (x = h.cus[n2]) := ⟨_, rfl⟩
      have HX2 : ∃ y, Hid (y = h.cus.getD (n2 - 1) 0) := ⟨_, rfl⟩
      obtain ⟨x, HX1⟩ := HX1
      obtain ⟨y, HX2⟩ := HX2
      rw [← HX1.out] at e0
      have HP : Hid (0 < n2 → wr.cell? ⟨cb, co + (n2 - 1), none⟩ = some (.int .u64 (y : Int))) := fun h0 => by rw [HX2.out]; exact HP.out h0
      have HZ : Hid (0 < n2 → IntKind.i64.wrap ((n2 : Int) - 1) = (n2 : Int) - 1 ∧ ((n2 : Int) - 1).toNat = n2 - 1 ∧ (0 : Int) ≤ (n2 : Int) - 1 ∧ (n2 : Int) - 1 < (h.cus.length : Int) ∧ ¬ (n2 : Int) < 1 ∧ (1 : Int) ≤ n2) := fun h0 => ⟨IntWalk.i64_in _ (by omega), by omega, by omega, by omega, by omega, by omega⟩
      have i0 : (0 : Int) ≤ (n2 : Int) := by omega
      have i1 : (n2 : Int) < (h.cus.length : Int) := by omega
      go_wp2_with fail
      obtain ⟨B262z, hB262z⟩ : ∃ B : Bool, RowKit.Hid (B = (finite x)) := ⟨_, rfl⟩
      obtain ⟨B263z, hB263z⟩ : ∃ B : Bool, RowKit.Hid (B = (!(B262z))) := ⟨_, rfl⟩
      obtain ⟨C265z, hC265z⟩ : ∃ B : Bool, RowKit.Hid (B = (true && (B263z == false))) := ⟨_, rfl⟩
      obtain ⟨B270z, hB270z⟩ : ∃ B : Bool, RowKit.Hid (B = (((((x : Int) : Int)) == ((9223372036854775808 : Int))))) := ⟨_, rfl⟩
      obtain ⟨B271z, hB271z⟩ : ∃ B : Bool, RowKit.Hid (B = ((B263z) || (B270z))) := ⟨_, rfl⟩
      obtain ⟨C273z, hC273z⟩ : ∃ B : Bool, RowKit.Hid (B = (true && (B271z == false))) := ⟨_, rfl⟩
      obtain ⟨B274z, hB274z⟩ : ∃ B : Bool, RowKit.Hid (B = (decide (((0 : Int)) < (((n2 : Int) : Int))))) := ⟨_, rfl⟩
      obtain ⟨C276z, hC276z⟩ : ∃ B : Bool, RowKit.Hid (B = (C273z && (B274z == true))) := ⟨_, rfl⟩
      obtain ⟨B289z, hB289z⟩ : ∃ B : Bool, RowKit.Hid (B = ((FloatKind.f64.format.order y x == some .lt))) := ⟨_, rfl⟩
      obtain ⟨B290z, hB290z⟩ : ∃ B : Bool, RowKit.Hid (B = (!(B289z))) := ⟨_, rfl⟩
      obtain ⟨B291z, hB291z⟩ : ∃ B : Bool, RowKit.Hid (B = ((B274z) && (B290z))) := ⟨_, rfl⟩
      obtain ⟨B292z, hB292z⟩ : ∃ B : Bool, RowKit.Hid (B = ((B271z) || (B291z))) := ⟨_, rfl⟩
      obtain ⟨Fz, hFz⟩ : ∃ F : Tmp → Value → Prop, F = (fun s zz => match s with
        | 257 => zz = .pointer (some ⟨w.heap.size, 12, none⟩)
        | 258 => zz = .slice (some ⟨cb, co, none⟩) h.cus.length c7
        | 259 => zz = .int .i64 ((n2 : Int))
        | 260 => zz = .pointer (some ⟨cb, co + n2, none⟩)
        | 261 => zz = .int .u64 ((x : Int))
        | 262 => zz = .bool B262z
        | 263 => zz = .bool B263z
        | 264 => zz = .bool B263z
        | 265 => zz = if C265z = true then .pointer (some ⟨w.heap.size, 12, none⟩) else undef
        | 266 => zz = if C265z = true then .slice (some ⟨cb, co, none⟩) h.cus.length c7 else undef
        | 267 => zz = if C265z = true then .int .i64 ((n2 : Int)) else undef
        | 268 => zz = if C265z = true then .pointer (some ⟨cb, co + n2, none⟩) else undef
        | 269 => zz = if C265z = true then .int .u64 ((x : Int)) else undef
        | 270 => zz = if C265z = true then .bool B270z else undef
        | 271 => zz = .bool B271z
        | 272 => zz = .bool B271z
        | 273 => zz = if C273z = true then .int .i64 ((n2 : Int)) else undef
        | 274 => zz = if C273z = true then .bool B274z else undef
        | 275 => zz = if C273z = true then .bool B274z else undef
        | 276 => zz = if C276z = true then .pointer (some ⟨w.heap.size, 12, none⟩) else undef
        | 277 => zz = if C276z = true then .slice (some ⟨cb, co, none⟩) h.cus.length c7 else undef
        | 278 => zz = if C276z = true then .int .i64 ((n2 : Int)) else undef
        | 279 => zz = if C276z = true then .int .i64 ((n2 : Int) - 1) else undef
        | 280 => zz = if C276z = true then .pointer (some ⟨cb, co + (n2 - 1), none⟩) else undef
        | 281 => zz = if C276z = true then .int .u64 ((y : Int)) else undef
        | 282 => zz = if C276z = true then .float .f64 y else undef
        | 283 => zz = if C276z = true then .pointer (some ⟨w.heap.size, 12, none⟩) else undef
        | 284 => zz = if C276z = true then .slice (some ⟨cb, co, none⟩) h.cus.length c7 else undef
        | 285 => zz = if C276z = true then .int .i64 ((n2 : Int)) else undef
        | 286 => zz = if C276z = true then .pointer (some ⟨cb, co + n2, none⟩) else undef
        | 287 => zz = if C276z = true then .int .u64 ((x : Int)) else undef
        | 288 => zz = if C276z = true then .float .f64 x else undef
        | 289 => zz = if C276z = true then .bool B289z else undef
        | 290 => zz = if C276z = true then .bool B290z else undef
        | 291 => zz = if C273z = true then .bool B291z else undef
        | 292 => zz = .bool B292z
        | _ => True) := ⟨_, rfl⟩
      have HK : C276z = true → 0 < n2 := fun hc => by
       have z := hC276z.out.symm.trans hc
       simp only [hC273z.out, hB274z.out, Bool.and_eq_true, decide_eq_true_iff, beq_iff_eq] at z
       omega
      refine Rg.region_drawn2 (by kernel_rfl) Fz [257, 258, 259, 260, 261, 262, 263, 264, 265, 266, 267, 268, 269, 270, 271, 272, 273, 274, 275, 276, 277, 278, 279, 280, 281, 282, 283, 284, 285, 286, 287, 288, 289, 290, 291, 292] (fun uz => ⟨#[.agg #[.int .u8 h.hint, .int .i32 h.schema, .int .u64 h.thr, .int .u64 h.sum, .int .u64 h.zc, .int .u64 h.cnt, .slice a1 h.pos.length c1, .slice a2 h.neg.length c2, .slice a3 h.ups.length c3, .slice a4 h.downs.length c4, .slice a5 h.fups.length c5, .slice a6 h.fdowns.length c6, .slice (some ⟨cb, co, none⟩) h.cus.length c7], .bool fl, .pointer (some ⟨w.heap.size, 0, none⟩), undef, u4, .bool cus, .slice ax lA.length cx, .bool okA, .slice ay lB.length cy, .bool okB, .slice a4' (lA.length + lB.length) c4', .int .i64 most, .int .i64 k, .int .i64 n2, undef, undef, u16, u17, u18, u19, u20, u21, u22, u23, u24, u25, u26, u27, u28, u29, u30, u31, u32, u33, u34, u35, u36, u37, u38, u39, u40, u41, u42, u43, u44, u45, u46, u47, u48, u49, u50, u51, u52, u53, u54, u55, u56, u57, u58, u59, u60, u61, u62, u63, u64, u65, u66, u67, u68, u69, u70, u71, u72, u73, u74, u75, u76, u77, u78, u79, u80, u81, u82, u83, u84, u85, u86, u87, u88, u89, u90, u91, u92, u93, u94, u95, u96, u97, u98, u99, u100, u101, u102, u103, u104, u105, u106, u107, u108, u109, u110, u111, u112, u113, u114, u115, u116, u117, u118, u119, u120, u121, u122, u123, u124, u125, u126, u127, u128, u129, u130, u131, u132, u133, u134, u135, u136, u137, u138, u139, u140, u141, u142, u143, u144, u145, u146, u147, u148, u149, u150, u151, u152, u153, u154, u155, u156, u157, u158, u159, u160, u161, u162, u163, u164, u165, u166, u167, u168, u169, u170, u171, u172, u173, u174, u175, u176, u177, u178, u179, u180, .int .i64 k, .slice a4' (lA.length + lB.length) c4', .int .i64 ((lA.length : Int) + (lB.length : Int)), .bool false, u185, u186, u187, u188, u189, u190, u191, u192, u193, u194, u195, u196, u197, u198, u199, u200, u201, u202, u203, u204, u205, u206, u207, u208, u209, u210, u211, u212, u213, u214, u215, u216, u217, u218, u219, u220, u221, u222, u223, u224, u225, u226, u227, u228, u229, u230, u231, u232, u233, u234, u235, u236, u237, u238, u239, u240, u241, u242, u243, u244, u245, u246, u247, u248, u249, .int .i64 n2, .pointer (some ⟨w.heap.size, 12, none⟩), .slice (some ⟨cb, co, none⟩) h.cus.length c7, .int .i64 (h.cus.length : Int), .bool true, u255, u256, uz 257, uz 258, uz 259, uz 260, uz 261, uz 262, uz 263, uz 264, uz 265, uz 266, uz 267, uz 268, uz 269, uz 270, uz 271, uz 272, uz 273, uz 274, uz 275, uz 276, uz 277, uz 278, uz 279, uz 280, uz 281, uz 282, uz 283, uz 284, uz 285, uz 286, uz 287, uz 288, uz 289, uz 290, uz 291, uz 292, u293, u294, u295, u296, u297, u298, u299, u300, u301, u302, u303, u304, u305, u306, u307, u308, u309, u310, u311, u312, u313, u314, u315, u316, u317, u318, u319, u320, u321, u322, u323, u324, u325, u326, u327, u328, u329, u330, u331, u332, u333, u334, u335, u336, u337, u338, u339, u340, u341, u342, u343, u344, u345, u346, u347, u348, u349, u350, u351, u352, u353, u354, u355, u356, u357, u358, u359, u360, u361, u362, u363, u364, u365], []⟩) (fun _ => by as_aux_lemma => kernel_rfl) (by as_aux_lemma => kernel_rfl) (by as_aux_lemma => kernel_rfl) (by as_aux_lemma => kernel_rfl) (by as_aux_lemma => kernel_rfl) ?stz ?_
      case stz =>
       refine ⟨?_, ?_, ?_, ?_, ?_, ?_, ?_, ?_, ?_, ?_, ?_, ?_, ?_, ?_, ?_, ?_, ?_, ?_, ?_, ?_, ?_, ?_, ?_, ?_, ?_, ?_, ?_, ?_, ?_, ?_, ?_, ?_, ?_, ?_, ?_, ?_, trivial⟩
       skip
       ·as_aux_lemma =>
        refine Rg.stepR_free (.pointer (some ⟨w.heap.size, 12, none⟩)) (by rfl) (fun a hr => ?_) (by rw [hFz]; rfl)
        have z2 := Rg.read_old hr 2 (by kernel_rfl) (by kernel_rfl); have r2 : a.eval (.tmp 2) = .pointer (some ⟨w.heap.size, 0, none⟩) := z2; clear z2; generalize a.eval = ρ at *; clear hr; go_simp
       ·as_aux_lemma =>
        refine Rg.stepR_free (.slice (some ⟨cb, co, none⟩) h.cus.length c7) (by rfl) (fun a hr => ?_) (by rw [hFz]; rfl)
        have z257 := Rg.read_new hr 257 (by kernel_rfl) (by kernel_rfl); rw [hFz] at z257; have r257 : a.eval (.tmp 257) = .pointer (some ⟨w.heap.size, 12, none⟩) := z257; clear z257; generalize a.eval = ρ at *; clear hr; go_simp
       ·as_aux_lemma =>
        refine Rg.stepR_free (.int .i64 ((n2 : Int))) (by rfl) (fun a hr => ?_) (by rw [hFz]; rfl)
        have z13 := Rg.read_old hr 13 (by kernel_rfl) (by kernel_rfl); have r13 : a.eval (.tmp 13) = .int .i64 ((n2 : Int)) := z13; clear z13; generalize a.eval = ρ at *; clear hr; go_simp
       ·as_aux_lemma =>
        refine Rg.stepR_free (.pointer (some ⟨cb, co + n2, none⟩)) (by rfl) (fun a hr => ?_) (by rw [hFz]; rfl)
        have z258 := Rg.read_new hr 258 (by kernel_rfl) (by kernel_rfl); rw [hFz] at z258; have r258 : a.eval (.tmp 258) = .slice (some ⟨cb, co, none⟩) h.cus.length c7 := z258; clear z258; have z259 := Rg.read_new hr 259 (by kernel_rfl) (by kernel_rfl); rw [hFz] at z259; have r259 : a.eval (.tmp 259) = .int .i64 ((n2 : Int)) := z259; clear z259; generalize a.eval = ρ at *; clear hr; go_simp
       ·as_aux_lemma =>
        refine Rg.stepR_free (.int .u64 ((x : Int))) (by rfl) (fun a hr => ?_) (by rw [hFz]; rfl)
        have z260 := Rg.read_new hr 260 (by kernel_rfl) (by kernel_rfl); rw [hFz] at z260; have r260 : a.eval (.tmp 260) = .pointer (some ⟨cb, co + n2, none⟩) := z260; clear z260; generalize a.eval = ρ at *; clear hr; go_simp
       ·as_aux_lemma =>
        refine Rg.stepR_free_wp (.bool B262z) (by rfl) (fun a hr => ?_) (by rw [hFz]; rfl)
        have z261 := Rg.read_new hr 261 (by kernel_rfl) (by kernel_rfl); rw [hFz] at z261; have r261 : a.eval (.tmp 261) = .int .u64 ((x : Int)) := z261; clear z261; rw [show B262z = _ from hB262z.out]; intro K Q hK; have rf : a.eval (.func 36) = .func (.func 36) #[] #[] := rfl; unfold Oper.wp; generalize hx : a.eval = ρ at *; clear hr; go_simp; refine (finite_any _ _).mono ?_; rintro e w' ⟨rfl, rfl⟩; exact hK
       ·as_aux_lemma =>
        refine Rg.stepR_free (.bool B263z) (by rfl) (fun a hr => ?_) (by rw [hFz]; rfl)
        have z262 := Rg.read_new hr 262 (by kernel_rfl) (by kernel_rfl); rw [hFz] at z262; have r262 : a.eval (.tmp 262) = .bool B262z := z262; clear z262; rw [show B263z = _ from hB263z.out]; generalize a.eval = ρ at *; clear hr; go_simp
       ·as_aux_lemma =>
        refine Rg.stepR_free (.bool B263z) (by rfl) (fun a hr => ?_) (by rw [hFz]; rfl)
        have z263 := Rg.read_new hr 263 (by kernel_rfl) (by kernel_rfl); rw [hFz] at z263; have r263 : a.eval (.tmp 263) = .bool B263z := z263; clear z263; generalize a.eval = ρ at *; clear hr; go_simp
       ·as_aux_lemma =>
        have hC := hC265z.out
        refine Rg.stepR_guarded (.pointer (some ⟨w.heap.size, 12, none⟩)) true B263z 7 false 264 (by rfl) (by kernel_rfl) (by kernel_rfl) (by kernel_rfl) (fun x hx => by rw [hFz] at hx; exact hx) (fun hc a hr => ?_) (fun hc => ?_) (fun hc => ?_)
        ·have z2 := Rg.read_old hr 2 (by kernel_rfl) (by kernel_rfl); have r2 : a.eval (.tmp 2) = .pointer (some ⟨w.heap.size, 0, none⟩) := z2; clear z2; rw [← hC] at hc; clear hC; generalize a.eval = ρ at *; clear hr; go_simp
        ·rw [← hC] at hc; rw [hFz]; show _ = ite _ _ _; rw [if_pos hc]
        ·rw [← hC] at hc; rw [hFz]; show _ = ite _ _ _; rw [if_neg (by rw [hc]; decide)]
       ·as_aux_lemma =>
        have hC := hC265z.out
        refine Rg.stepR_guarded (.slice (some ⟨cb, co, none⟩) h.cus.length c7) true B263z 7 false 264 (by rfl) (by kernel_rfl) (by kernel_rfl) (by kernel_rfl) (fun x hx => by rw [hFz] at hx; exact hx) (fun hc a hr => ?_) (fun hc => ?_) (fun hc => ?_)
        ·have z265 := Rg.read_new hr 265 (by kernel_rfl) (by kernel_rfl); rw [hFz] at z265; have r265 : a.eval (.tmp 265) = if C265z = true then .pointer (some ⟨w.heap.size, 12, none⟩) else undef := z265; clear z265; rw [← hC] at hc; clear hC; rw [if_pos hc] at r265; generalize a.eval = ρ at *; clear hr; go_simp
        ·rw [← hC] at hc; rw [hFz]; show _ = ite _ _ _; rw [if_pos hc]
        ·rw [← hC] at hc; rw [hFz]; show _ = ite _ _ _; rw [if_neg (by rw [hc]; decide)]
       ·as_aux_lemma =>
        have hC := hC265z.out
        refine Rg.stepR_guarded (.int .i64 ((n2 : Int))) true B263z 7 false 264 (by rfl) (by kernel_rfl) (by kernel_rfl) (by kernel_rfl) (fun x hx => by rw [hFz] at hx; exact hx) (fun hc a hr => ?_) (fun hc => ?_) (fun hc => ?_)
        ·have z13 := Rg.read_old hr 13 (by kernel_rfl) (by kernel_rfl); have r13 : a.eval (.tmp 13) = .int .i64 ((n2 : Int)) := z13; clear z13; rw [← hC] at hc; clear hC; generalize a.eval = ρ at *; clear hr; go_simp
        ·rw [← hC] at hc; rw [hFz]; show _ = ite _ _ _; rw [if_pos hc]
        ·rw [← hC] at hc; rw [hFz]; show _ = ite _ _ _; rw [if_neg (by rw [hc]; decide)]
       ·as_aux_lemma =>
        have hC := hC265z.out
        refine Rg.stepR_guarded (.pointer (some ⟨cb, co + n2, none⟩)) true B263z 7 false 264 (by rfl) (by kernel_rfl) (by kernel_rfl) (by kernel_rfl) (fun x hx => by rw [hFz] at hx; exact hx) (fun hc a hr => ?_) (fun hc => ?_) (fun hc => ?_)
        ·have z266 := Rg.read_new hr 266 (by kernel_rfl) (by kernel_rfl); rw [hFz] at z266; have r266 : a.eval (.tmp 266) = if C265z = true then .slice (some ⟨cb, co, none⟩) h.cus.length c7 else undef := z266; clear z266; have z267 := Rg.read_new hr 267 (by kernel_rfl) (by kernel_rfl); rw [hFz] at z267; have r267 : a.eval (.tmp 267) = if C265z = true then .int .i64 ((n2 : Int)) else undef := z267; clear z267; rw [← hC] at hc; clear hC; rw [if_pos hc] at r266; rw [if_pos hc] at r267; generalize a.eval = ρ at *; clear hr; go_simp
        ·rw [← hC] at hc; rw [hFz]; show _ = ite _ _ _; rw [if_pos hc]
        ·rw [← hC] at hc; rw [hFz]; show _ = ite _ _ _; rw [if_neg (by rw [hc]; decide)]
       ·as_aux_lemma =>
        have hC := hC265z.out
        refine Rg.stepR_guarded (.int .u64 ((x : Int))) true B263z 7 false 264 (by rfl) (by kernel_rfl) (by kernel_rfl) (by kernel_rfl) (fun x hx => by rw [hFz] at hx; exact hx) (fun hc a hr => ?_) (fun hc => ?_) (fun hc => ?_)
        ·have z268 := Rg.read_new hr 268 (by kernel_rfl) (by kernel_rfl); rw [hFz] at z268; have r268 : a.eval (.tmp 268) = if C265z = true then .pointer (some ⟨cb, co + n2, none⟩) else undef := z268; clear z268; rw [← hC] at hc; clear hC; rw [if_pos hc] at r268; generalize a.eval = ρ at *; clear hr; go_simp
        ·rw [← hC] at hc; rw [hFz]; show _ = ite _ _ _; rw [if_pos hc]
        ·rw [← hC] at hc; rw [hFz]; show _ = ite _ _ _; rw [if_neg (by rw [hc]; decide)]
       ·as_aux_lemma =>
        have hC := hC265z.out
        refine Rg.stepR_guarded (.bool B270z) true B263z 7 false 264 (by rfl) (by kernel_rfl) (by kernel_rfl) (by kernel_rfl) (fun x hx => by rw [hFz] at hx; exact hx) (fun hc a hr => ?_) (fun hc => ?_) (fun hc => ?_)
        ·have z269 := Rg.read_new hr 269 (by kernel_rfl) (by kernel_rfl); rw [hFz] at z269; have r269 : a.eval (.tmp 269) = if C265z = true then .int .u64 ((x : Int)) else undef := z269; clear z269; rw [← hC] at hc; clear hC; rw [if_pos hc] at r269; have rc : ∀ v, a.eval (.const v) = v := fun _ => rfl; rw [show B270z = _ from hB270z.out]; generalize a.eval = ρ at *; clear hr; go_simp
        ·rw [← hC] at hc; rw [hFz]; show _ = ite _ _ _; rw [if_pos hc]
        ·rw [← hC] at hc; rw [hFz]; show _ = ite _ _ _; rw [if_neg (by rw [hc]; decide)]
       ·as_aux_lemma =>
        refine Rg.stepR_free (.bool B271z) (by rfl) (fun a hr => ?_) (by rw [hFz]; rfl)
        have z264 := Rg.read_new hr 264 (by kernel_rfl) (by kernel_rfl); rw [hFz] at z264; have r264 : a.eval (.tmp 264) = .bool B263z := z264; clear z264; have z270 := Rg.read_new hr 270 (by kernel_rfl) (by kernel_rfl); rw [hFz] at z270; have r270 : a.eval (.tmp 270) = if C265z = true then .bool B270z else undef := z270; clear z270; have rc : ∀ v, a.eval (.const v) = v := fun _ => rfl; rw [show B271z = _ from hB271z.out]; have e270 := hC265z.out; clear hr; generalize a.eval = ρ at *; cases B263z <;> simp [e270] at r270 <;> (simp [r264, r270, rc, go_sem, execOp])
       ·as_aux_lemma =>
        refine Rg.stepR_free (.bool B271z) (by rfl) (fun a hr => ?_) (by rw [hFz]; rfl)
        have z271 := Rg.read_new hr 271 (by kernel_rfl) (by kernel_rfl); rw [hFz] at z271; have r271 : a.eval (.tmp 271) = .bool B271z := z271; clear z271; generalize a.eval = ρ at *; clear hr; go_simp
       ·as_aux_lemma =>
        have hC := hC273z.out
        refine Rg.stepR_guarded (.int .i64 ((n2 : Int))) true B271z 15 false 272 (by rfl) (by kernel_rfl) (by kernel_rfl) (by kernel_rfl) (fun x hx => by rw [hFz] at hx; exact hx) (fun hc a hr => ?_) (fun hc => ?_) (fun hc => ?_)
        ·have z13 := Rg.read_old hr 13 (by kernel_rfl) (by kernel_rfl); have r13 : a.eval (.tmp 13) = .int .i64 ((n2 : Int)) := z13; clear z13; rw [← hC] at hc; clear hC; generalize a.eval = ρ at *; clear hr; go_simp
        ·rw [← hC] at hc; rw [hFz]; show _ = ite _ _ _; rw [if_pos hc]
        ·rw [← hC] at hc; rw [hFz]; show _ = ite _ _ _; rw [if_neg (by rw [hc]; decide)]
       ·as_aux_lemma =>
        have hC := hC273z.out
        refine Rg.stepR_guarded (.bool B274z) true B271z 15 false 272 (by rfl) (by kernel_rfl) (by kernel_rfl) (by kernel_rfl) (fun x hx => by rw [hFz] at hx; exact hx) (fun hc a hr => ?_) (fun hc => ?_) (fun hc => ?_)
        ·have z273 := Rg.read_new hr 273 (by kernel_rfl) (by kernel_rfl); rw [hFz] at z273; have r273 : a.eval (.tmp 273) = if C273z = true then .int .i64 ((n2 : Int)) else undef := z273; clear z273; rw [← hC] at hc; clear hC; rw [if_pos hc] at r273; have rc : ∀ v, a.eval (.const v) = v := fun _ => rfl; rw [show B274z = _ from hB274z.out]; generalize a.eval = ρ at *; clear hr; go_simp
        ·rw [← hC] at hc; rw [hFz]; show _ = ite _ _ _; rw [if_pos hc]
        ·rw [← hC] at hc; rw [hFz]; show _ = ite _ _ _; rw [if_neg (by rw [hc]; decide)]
       ·as_aux_lemma =>
        have hC := hC273z.out
        refine Rg.stepR_guarded (.bool B274z) true B271z 15 false 272 (by rfl) (by kernel_rfl) (by kernel_rfl) (by kernel_rfl) (fun x hx => by rw [hFz] at hx; exact hx) (fun hc a hr => ?_) (fun hc => ?_) (fun hc => ?_)
        ·have z274 := Rg.read_new hr 274 (by kernel_rfl) (by kernel_rfl); rw [hFz] at z274; have r274 : a.eval (.tmp 274) = if C273z = true then .bool B274z else undef := z274; clear z274; rw [← hC] at hc; clear hC; rw [if_pos hc] at r274; generalize a.eval = ρ at *; clear hr; go_simp
        ·rw [← hC] at hc; rw [hFz]; show _ = ite _ _ _; rw [if_pos hc]
        ·rw [← hC] at hc; rw [hFz]; show _ = ite _ _ _; rw [if_neg (by rw [hc]; decide)]
       ·as_aux_lemma =>
        have hC := hC276z.out
        refine Rg.stepR_guarded (.pointer (some ⟨w.heap.size, 12, none⟩)) C273z B274z 18 true 275 (by rfl) (by kernel_rfl) (by kernel_rfl) (by kernel_rfl) (fun x hx => by rw [hFz] at hx; exact hx) (fun hc a hr => ?_) (fun hc => ?_) (fun hc => ?_)
        ·have z2 := Rg.read_old hr 2 (by kernel_rfl) (by kernel_rfl); have r2 : a.eval (.tmp 2) = .pointer (some ⟨w.heap.size, 0, none⟩) := z2; clear z2; rw [← hC] at hc; clear hC; have hk0 := HK hc; have ep := HP.out hk0; obtain ⟨zk1, zk2, zk3, zk4, zk5, zk6⟩ := HZ.out hk0; generalize a.eval = ρ at *; clear hr; go_simp
        ·rw [← hC] at hc; rw [hFz]; show _ = ite _ _ _; rw [if_pos hc]
        ·rw [← hC] at hc; rw [hFz]; show _ = ite _ _ _; rw [if_neg (by rw [hc]; decide)]
       ·as_aux_lemma =>
        have hC := hC276z.out
        refine Rg.stepR_guarded (.slice (some ⟨cb, co, none⟩) h.cus.length c7) C273z B274z 18 true 275 (by rfl) (by kernel_rfl) (by kernel_rfl) (by kernel_rfl) (fun x hx => by rw [hFz] at hx; exact hx) (fun hc a hr => ?_) (fun hc => ?_) (fun hc => ?_)
        ·have z276 := Rg.read_new hr 276 (by kernel_rfl) (by kernel_rfl); rw [hFz] at z276; have r276 : a.eval (.tmp 276) = if C276z = true then .pointer (some ⟨w.heap.size, 12, none⟩) else undef := z276; clear z276; rw [← hC] at hc; clear hC; have hk0 := HK hc; have ep := HP.out hk0; obtain ⟨zk1, zk2, zk3, zk4, zk5, zk6⟩ := HZ.out hk0; rw [if_pos hc] at r276; generalize a.eval = ρ at *; clear hr; go_simp
        ·rw [← hC] at hc; rw [hFz]; show _ = ite _ _ _; rw [if_pos hc]
        ·rw [← hC] at hc; rw [hFz]; show _ = ite _ _ _; rw [if_neg (by rw [hc]; decide)]
       ·as_aux_lemma =>
        have hC := hC276z.out
        refine Rg.stepR_guarded (.int .i64 ((n2 : Int))) C273z B274z 18 true 275 (by rfl) (by kernel_rfl) (by kernel_rfl) (by kernel_rfl) (fun x hx => by rw [hFz] at hx; exact hx) (fun hc a hr => ?_) (fun hc => ?_) (fun hc => ?_)
        ·have z13 := Rg.read_old hr 13 (by kernel_rfl) (by kernel_rfl); have r13 : a.eval (.tmp 13) = .int .i64 ((n2 : Int)) := z13; clear z13; rw [← hC] at hc; clear hC; have hk0 := HK hc; have ep := HP.out hk0; obtain ⟨zk1, zk2, zk3, zk4, zk5, zk6⟩ := HZ.out hk0; generalize a.eval = ρ at *; clear hr; go_simp
        ·rw [← hC] at hc; rw [hFz]; show _ = ite _ _ _; rw [if_pos hc]
        ·rw [← hC] at hc; rw [hFz]; show _ = ite _ _ _; rw [if_neg (by rw [hc]; decide)]
       ·as_aux_lemma =>
        have hC := hC276z.out
        refine Rg.stepR_guarded (.int .i64 ((n2 : Int) - 1)) C273z B274z 18 true 275 (by rfl) (by kernel_rfl) (by kernel_rfl) (by kernel_rfl) (fun x hx => by rw [hFz] at hx; exact hx) (fun hc a hr => ?_) (fun hc => ?_) (fun hc => ?_)
        ·have z278 := Rg.read_new hr 278 (by kernel_rfl) (by kernel_rfl); rw [hFz] at z278; have r278 : a.eval (.tmp 278) = if C276z = true then .int .i64 ((n2 : Int)) else undef := z278; clear z278; rw [← hC] at hc; clear hC; have hk0 := HK hc; have ep := HP.out hk0; obtain ⟨zk1, zk2, zk3, zk4, zk5, zk6⟩ := HZ.out hk0; rw [if_pos hc] at r278; have rc : ∀ v, a.eval (.const v) = v := fun _ => rfl; generalize a.eval = ρ at *; clear hr; go_simp
        ·rw [← hC] at hc; rw [hFz]; show _ = ite _ _ _; rw [if_pos hc]
        ·rw [← hC] at hc; rw [hFz]; show _ = ite _ _ _; rw [if_neg (by rw [hc]; decide)]
       ·as_aux_lemma =>
        have hC := hC276z.out
        refine Rg.stepR_guarded (.pointer (some ⟨cb, co + (n2 - 1), none⟩)) C273z B274z 18 true 275 (by rfl) (by kernel_rfl) (by kernel_rfl) (by kernel_rfl) (fun x hx => by rw [hFz] at hx; exact hx) (fun hc a hr => ?_) (fun hc => ?_) (fun hc => ?_)
        ·have z277 := Rg.read_new hr 277 (by kernel_rfl) (by kernel_rfl); rw [hFz] at z277; have r277 : a.eval (.tmp 277) = if C276z = true then .slice (some ⟨cb, co, none⟩) h.cus.length c7 else undef := z277; clear z277; have z279 := Rg.read_new hr 279 (by kernel_rfl) (by kernel_rfl); rw [hFz] at z279; have r279 : a.eval (.tmp 279) = if C276z = true then .int .i64 ((n2 : Int) - 1) else undef := z279; clear z279; rw [← hC] at hc; clear hC; have hk0 := HK hc; have ep := HP.out hk0; obtain ⟨zk1, zk2, zk3, zk4, zk5, zk6⟩ := HZ.out hk0; rw [if_pos hc] at r277; rw [if_pos hc] at r279; generalize a.eval = ρ at *; clear hr; go_simp
        ·rw [← hC] at hc; rw [hFz]; show _ = ite _ _ _; rw [if_pos hc]
        ·rw [← hC] at hc; rw [hFz]; show _ = ite _ _ _; rw [if_neg (by rw [hc]; decide)]
       ·as_aux_lemma =>
        have hC := hC276z.out
        refine Rg.stepR_guarded (.int .u64 ((y : Int))) C273z B274z 18 true 275 (by rfl) (by kernel_rfl) (by kernel_rfl) (by kernel_rfl) (fun x hx => by rw [hFz] at hx; exact hx) (fun hc a hr => ?_) (fun hc => ?_) (fun hc => ?_)
        ·have z280 := Rg.read_new hr 280 (by kernel_rfl) (by kernel_rfl); rw [hFz] at z280; have r280 : a.eval (.tmp 280) = if C276z = true then .pointer (some ⟨cb, co + (n2 - 1), none⟩) else undef := z280; clear z280; rw [← hC] at hc; clear hC; have hk0 := HK hc; have ep := HP.out hk0; obtain ⟨zk1, zk2, zk3, zk4, zk5, zk6⟩ := HZ.out hk0; rw [if_pos hc] at r280; generalize a.eval = ρ at *; clear hr; go_simp
        ·rw [← hC] at hc; rw [hFz]; show _ = ite _ _ _; rw [if_pos hc]
        ·rw [← hC] at hc; rw [hFz]; show _ = ite _ _ _; rw [if_neg (by rw [hc]; decide)]
       ·as_aux_lemma =>
        have hC := hC276z.out
        refine Rg.stepR_guarded_wp (.float .f64 y) C273z B274z 18 true 275 (by rfl) (by kernel_rfl) (by kernel_rfl) (by kernel_rfl) (fun x hx => by rw [hFz] at hx; exact hx) (fun hc a hr => ?_) (fun hc => ?_) (fun hc => ?_)
        ·have z281 := Rg.read_new hr 281 (by kernel_rfl) (by kernel_rfl); rw [hFz] at z281; have r281 : a.eval (.tmp 281) = if C276z = true then .int .u64 ((y : Int)) else undef := z281; clear z281; rw [← hC] at hc; clear hC; have hk0 := HK hc; have ep := HP.out hk0; obtain ⟨zk1, zk2, zk3, zk4, zk5, zk6⟩ := HZ.out hk0; rw [if_pos hc] at r281; intro K Q hK; have rf : a.eval (.func 37) = .func (.func 37) #[] #[] := rfl; unfold Oper.wp; generalize hx : a.eval = ρ at *; clear hr; go_simp; refine (flt_any _ _).mono ?_; rintro e w' ⟨rfl, rfl⟩; exact hK
        ·rw [← hC] at hc; rw [hFz]; show _ = ite _ _ _; rw [if_pos hc]
        ·rw [← hC] at hc; rw [hFz]; show _ = ite _ _ _; rw [if_neg (by rw [hc]; decide)]
       ·as_aux_lemma =>
        have hC := hC276z.out
        refine Rg.stepR_guarded (.pointer (some ⟨w.heap.size, 12, none⟩)) C273z B274z 18 true 275 (by rfl) (by kernel_rfl) (by kernel_rfl) (by kernel_rfl) (fun x hx => by rw [hFz] at hx; exact hx) (fun hc a hr => ?_) (fun hc => ?_) (fun hc => ?_)
        ·have z2 := Rg.read_old hr 2 (by kernel_rfl) (by kernel_rfl); have r2 : a.eval (.tmp 2) = .pointer (some ⟨w.heap.size, 0, none⟩) := z2; clear z2; rw [← hC] at hc; clear hC; have hk0 := HK hc; have ep := HP.out hk0; obtain ⟨zk1, zk2, zk3, zk4, zk5, zk6⟩ := HZ.out hk0; generalize a.eval = ρ at *; clear hr; go_simp
        ·rw [← hC] at hc; rw [hFz]; show _ = ite _ _ _; rw [if_pos hc]
        ·rw [← hC] at hc; rw [hFz]; show _ = ite _ _ _; rw [if_neg (by rw [hc]; decide)]
       ·as_aux_lemma =>
        have hC := hC276z.out
        refine Rg.stepR_guarded (.slice (some ⟨cb, co, none⟩) h.cus.length c7) C273z B274z 18 true 275 (by rfl) (by kernel_rfl) (by kernel_rfl) (by kernel_rfl) (fun x hx => by rw [hFz] at hx; exact hx) (fun hc a hr => ?_) (fun hc => ?_) (fun hc => ?_)
        ·have z283 := Rg.read_new hr 283 (by kernel_rfl) (by kernel_rfl); rw [hFz] at z283; have r283 : a.eval (.tmp 283) = if C276z = true then .pointer (some ⟨w.heap.size, 12, none⟩) else undef := z283; clear z283; rw [← hC] at hc; clear hC; have hk0 := HK hc; have ep := HP.out hk0; obtain ⟨zk1, zk2, zk3, zk4, zk5, zk6⟩ := HZ.out hk0; rw [if_pos hc] at r283; generalize a.eval = ρ at *; clear hr; go_simp
        ·rw [← hC] at hc; rw [hFz]; show _ = ite _ _ _; rw [if_pos hc]
        ·rw [← hC] at hc; rw [hFz]; show _ = ite _ _ _; rw [if_neg (by rw [hc]; decide)]
       ·as_aux_lemma =>
        have hC := hC276z.out
        refine Rg.stepR_guarded (.int .i64 ((n2 : Int))) C273z B274z 18 true 275 (by rfl) (by kernel_rfl) (by kernel_rfl) (by kernel_rfl) (fun x hx => by rw [hFz] at hx; exact hx) (fun hc a hr => ?_) (fun hc => ?_) (fun hc => ?_)
        ·have z13 := Rg.read_old hr 13 (by kernel_rfl) (by kernel_rfl); have r13 : a.eval (.tmp 13) = .int .i64 ((n2 : Int)) := z13; clear z13; rw [← hC] at hc; clear hC; have hk0 := HK hc; have ep := HP.out hk0; obtain ⟨zk1, zk2, zk3, zk4, zk5, zk6⟩ := HZ.out hk0; generalize a.eval = ρ at *; clear hr; go_simp
        ·rw [← hC] at hc; rw [hFz]; show _ = ite _ _ _; rw [if_pos hc]
        ·rw [← hC] at hc; rw [hFz]; show _ = ite _ _ _; rw [if_neg (by rw [hc]; decide)]
       ·as_aux_lemma =>
        have hC := hC276z.out
        refine Rg.stepR_guarded (.pointer (some ⟨cb, co + n2, none⟩)) C273z B274z 18 true 275 (by rfl) (by kernel_rfl) (by kernel_rfl) (by kernel_rfl) (fun x hx => by rw [hFz] at hx; exact hx) (fun hc a hr => ?_) (fun hc => ?_) (fun hc => ?_)
        ·have z284 := Rg.read_new hr 284 (by kernel_rfl) (by kernel_rfl); rw [hFz] at z284; have r284 : a.eval (.tmp 284) = if C276z = true then .slice (some ⟨cb, co, none⟩) h.cus.length c7 else undef := z284; clear z284; have z285 := Rg.read_new hr 285 (by kernel_rfl) (by kernel_rfl); rw [hFz] at z285; have r285 : a.eval (.tmp 285) = if C276z = true then .int .i64 ((n2 : Int)) else undef := z285; clear z285; rw [← hC] at hc; clear hC; have hk0 := HK hc; have ep := HP.out hk0; obtain ⟨zk1, zk2, zk3, zk4, zk5, zk6⟩ := HZ.out hk0; rw [if_pos hc] at r284; rw [if_pos hc] at r285; generalize a.eval = ρ at *; clear hr; go_simp
        ·rw [← hC] at hc; rw [hFz]; show _ = ite _ _ _; rw [if_pos hc]
        ·rw [← hC] at hc; rw [hFz]; show _ = ite _ _ _; rw [if_neg (by rw [hc]; decide)]
       ·as_aux_lemma =>
        have hC := hC276z.out
        refine Rg.stepR_guarded (.int .u64 ((x : Int))) C273z B274z 18 true 275 (by rfl) (by kernel_rfl) (by kernel_rfl) (by kernel_rfl) (fun x hx => by rw [hFz] at hx; exact hx) (fun hc a hr => ?_) (fun hc => ?_) (fun hc => ?_)
        ·have z286 := Rg.read_new hr 286 (by kernel_rfl) (by kernel_rfl); rw [hFz] at z286; have r286 : a.eval (.tmp 286) = if C276z = true then .pointer (some ⟨cb, co + n2, none⟩) else undef := z286; clear z286; rw [← hC] at hc; clear hC; have hk0 := HK hc; have ep := HP.out hk0; obtain ⟨zk1, zk2, zk3, zk4, zk5, zk6⟩ := HZ.out hk0; rw [if_pos hc] at r286; generalize a.eval = ρ at *; clear hr; go_simp
        ·rw [← hC] at hc; rw [hFz]; show _ = ite _ _ _; rw [if_pos hc]
        ·rw [← hC] at hc; rw [hFz]; show _ = ite _ _ _; rw [if_neg (by rw [hc]; decide)]
       ·as_aux_lemma =>
        have hC := hC276z.out
        refine Rg.stepR_guarded_wp (.float .f64 x) C273z B274z 18 true 275 (by rfl) (by kernel_rfl) (by kernel_rfl) (by kernel_rfl) (fun x hx => by rw [hFz] at hx; exact hx) (fun hc a hr => ?_) (fun hc => ?_) (fun hc => ?_)
        ·have z287 := Rg.read_new hr 287 (by kernel_rfl) (by kernel_rfl); rw [hFz] at z287; have r287 : a.eval (.tmp 287) = if C276z = true then .int .u64 ((x : Int)) else undef := z287; clear z287; rw [← hC] at hc; clear hC; have hk0 := HK hc; have ep := HP.out hk0; obtain ⟨zk1, zk2, zk3, zk4, zk5, zk6⟩ := HZ.out hk0; rw [if_pos hc] at r287; intro K Q hK; have rf : a.eval (.func 37) = .func (.func 37) #[] #[] := rfl; unfold Oper.wp; generalize hx : a.eval = ρ at *; clear hr; go_simp; refine (flt_any _ _).mono ?_; rintro e w' ⟨rfl, rfl⟩; exact hK
        ·rw [← hC] at hc; rw [hFz]; show _ = ite _ _ _; rw [if_pos hc]
        ·rw [← hC] at hc; rw [hFz]; show _ = ite _ _ _; rw [if_neg (by rw [hc]; decide)]
       ·as_aux_lemma =>
        have hC := hC276z.out
        refine Rg.stepR_guarded (.bool B289z) C273z B274z 18 true 275 (by rfl) (by kernel_rfl) (by kernel_rfl) (by kernel_rfl) (fun x hx => by rw [hFz] at hx; exact hx) (fun hc a hr => ?_) (fun hc => ?_) (fun hc => ?_)
        ·have z282 := Rg.read_new hr 282 (by kernel_rfl) (by kernel_rfl); rw [hFz] at z282; have r282 : a.eval (.tmp 282) = if C276z = true then .float .f64 y else undef := z282; clear z282; have z288 := Rg.read_new hr 288 (by kernel_rfl) (by kernel_rfl); rw [hFz] at z288; have r288 : a.eval (.tmp 288) = if C276z = true then .float .f64 x else undef := z288; clear z288; rw [← hC] at hc; clear hC; have hk0 := HK hc; have ep := HP.out hk0; obtain ⟨zk1, zk2, zk3, zk4, zk5, zk6⟩ := HZ.out hk0; rw [if_pos hc] at r282; rw [if_pos hc] at r288; rw [show B289z = _ from hB289z.out]; generalize a.eval = ρ at *; clear hr; go_simp
        ·rw [← hC] at hc; rw [hFz]; show _ = ite _ _ _; rw [if_pos hc]
        ·rw [← hC] at hc; rw [hFz]; show _ = ite _ _ _; rw [if_neg (by rw [hc]; decide)]
       ·as_aux_lemma =>
        have hC := hC276z.out
        refine Rg.stepR_guarded (.bool B290z) C273z B274z 18 true 275 (by rfl) (by kernel_rfl) (by kernel_rfl) (by kernel_rfl) (fun x hx => by rw [hFz] at hx; exact hx) (fun hc a hr => ?_) (fun hc => ?_) (fun hc => ?_)
        ·have z289 := Rg.read_new hr 289 (by kernel_rfl) (by kernel_rfl); rw [hFz] at z289; have r289 : a.eval (.tmp 289) = if C276z = true then .bool B289z else undef := z289; clear z289; rw [← hC] at hc; clear hC; have hk0 := HK hc; have ep := HP.out hk0; obtain ⟨zk1, zk2, zk3, zk4, zk5, zk6⟩ := HZ.out hk0; rw [if_pos hc] at r289; rw [show B290z = _ from hB290z.out]; generalize a.eval = ρ at *; clear hr; go_simp
        ·rw [← hC] at hc; rw [hFz]; show _ = ite _ _ _; rw [if_pos hc]
        ·rw [← hC] at hc; rw [hFz]; show _ = ite _ _ _; rw [if_neg (by rw [hc]; decide)]
       ·as_aux_lemma =>
        have hC := hC273z.out
        refine Rg.stepR_guarded (.bool B291z) true B271z 15 false 272 (by rfl) (by kernel_rfl) (by kernel_rfl) (by kernel_rfl) (fun x hx => by rw [hFz] at hx; exact hx) (fun hc a hr => ?_) (fun hc => ?_) (fun hc => ?_)
        ·have z275 := Rg.read_new hr 275 (by kernel_rfl) (by kernel_rfl); rw [hFz] at z275; have r275 : a.eval (.tmp 275) = if C273z = true then .bool B274z else undef := z275; clear z275; have z290 := Rg.read_new hr 290 (by kernel_rfl) (by kernel_rfl); rw [hFz] at z290; have r290 : a.eval (.tmp 290) = if C276z = true then .bool B290z else undef := z290; clear z290; rw [← hC] at hc; clear hC; rw [if_pos hc] at r275; have rc : ∀ v, a.eval (.const v) = v := fun _ => rfl; rw [show B291z = _ from hB291z.out]; have e290 := hC276z.out; rw [hc] at e290; clear hr; generalize a.eval = ρ at *; cases B274z <;> simp [e290] at r290 <;> (simp [r275, r290, rc, go_sem, execOp])
        ·rw [← hC] at hc; rw [hFz]; show _ = ite _ _ _; rw [if_pos hc]
        ·rw [← hC] at hc; rw [hFz]; show _ = ite _ _ _; rw [if_neg (by rw [hc]; decide)]
       ·as_aux_lemma =>
        refine Rg.stepR_free (.bool B292z) (by rfl) (fun a hr => ?_) (by rw [hFz]; rfl)
        have z272 := Rg.read_new hr 272 (by kernel_rfl) (by kernel_rfl); rw [hFz] at z272; have r272 : a.eval (.tmp 272) = .bool B271z := z272; clear z272; have z291 := Rg.read_new hr 291 (by kernel_rfl) (by kernel_rfl); rw [hFz] at z291; have r291 : a.eval (.tmp 291) = if C273z = true then .bool B291z else undef := z291; clear z291; have rc : ∀ v, a.eval (.const v) = v := fun _ => rfl; rw [show B292z = _ from hB292z.out]; have e291 := hC273z.out; clear hr; generalize a.eval = ρ at *; cases B271z <;> simp [e291] at r291 <;> (simp [r272, r291, rc, go_sem, execOp])
      intro uz huz
      have e292 : uz 292 = .bool B292z := by have z := huz 292 (by rfl); rw [hFz] at z; exact z
      clear huz
      simp only [e292]
      clear e292
      have HG : Hid (B292z = false → finite x = true ∧ x ≠ 9223372036854775808 ∧ (0 < n2 → (FloatKind.f64.format.order y x == some .lt) = true)) := fun hc => by
       have z := hB292z.out.symm.trans hc
       simp only [hB262z.out, hB263z.out, hB270z.out, hB271z.out, hB274z.out, hB289z.out, hB290z.out, hB291z.out, Bool.or_eq_false_iff, Bool.and_eq_false_imp, Bool.not_eq_true', Bool.not_eq_false', decide_eq_false_iff_not, beq_eq_false_iff_ne, decide_eq_true_iff] at z
       obtain ⟨⟨z1, z2⟩, z3⟩ := z
       exact ⟨z1, by omega, fun h0 => z3 (by omega)⟩
      clear hFz HK hB262z hB263z hC265z hB270z hB271z hC273z hB274z hC276z hB289z hB290z hB291z hB292z
      have hbw := HB1.out.trans (hbel5.mono HB1.out.size)
      cases B292z with
      | true =>
       go_wp2
       go_ret
       exact fitPost_no hbw.drew
      | false =>
       go_wp2
       go_roundw
       case rel =>
        refine ⟨n2 + 1, by omega, by simp, fun j hj hjk => ?_, hbel5.drew⟩
        by_cases hjn : j = n2
        ·subst hjn
         exact HC0.out x y HX1.out HX2.out (HG.out rfl)
        ·exact hgood j hj (by omega)
       case measure => simp [intOf]; omega
     ·have hkn : ¬ ((n2 : Int) < (h.cus.length : Int)) := by omega
      have HGC : Hid (∀ j (hj : j < h.cus.length), GoodC h.cus j hj) := fun j hj => hgood j hj (by omega)
      go_wp2_with fail
      have hbw := HB1.out.trans (hbel5.mono HB1.out.size)
      have hqn6 : w.heap.size < wr.heap.size := Nat.lt_of_lt_of_le hqn5 hbel5.size
      have hq6 := keep13 hbel5 hqn5 HQ5.out
      have hps := ha.pos.below hbw (Nat.le_refl _)
      have hns := ha.neg.below hbw (Nat.le_refl _)
      have hpl := hf.pos
      have hnl := hf.neg
      clear hgood hlt hk hkn d12 e12 hcu
      generalize hwr : wr = w6 at *
      clear hwr
      have cc6 := hq6.2.2.2.2.2.2.1
      have cc7 := hq6.2.2.2.2.2.2.2.1
      have HQ6 := Lib.hid hq6
      clear hq6
      go_loopw [14] (fun i wr => ∃ n3 : Nat, n3 ≤ h.pos.length + h.neg.length ∧ i = .int .i64 n3 ∧ (∀ j x, j < n3 → (h.pos ++ h.neg)[j]? = some x → GoodS x) ∧ Below w6.heap.size w6 wr) (fun i _ => h.pos.length + h.neg.length - (intOf i).toNat)
      case atStart => exact ⟨0, Nat.zero_le _, rfl, fun j _ hj => absurd hj (Nat.not_lt_zero _), Below.refl _ _⟩
      case round => as_aux_lemma =>
       obtain ⟨n3, hk, rfl, hgood, hbel6⟩ := hrel
       have d6 := (hbel6.cell (p := ⟨w.heap.size, 6, none⟩) hqn6).trans cc6
       have d7 := (hbel6.cell (p := ⟨w.heap.size, 7, none⟩) hqn6).trans cc7
       by_cases hlt : n3 < h.pos.length + h.neg.length
       ·have hbw6 := (hbw.trans (hbel6.mono hbw.size))
        have hqw : w.heap.size < wr.heap.size := Nat.lt_of_lt_of_le hqn6 hbel6.size
        have f6 := fun o => (((Below.refl wr.heap.size wr).alloc (Nat.le_refl _) o).cell (p := ⟨w.heap.size, 6, none⟩) hqw).trans d6
        have f7 := fun o => (((Below.refl wr.heap.size wr).alloc (Nat.le_refl _) o).cell (p := ⟨w.heap.size, 7, none⟩) hqw).trans d7
        by_cases hp : n3 < h.pos.length
        ·obtain ⟨sb, so, rfl, hsb1, hsb2, hsc⟩ := hps.at_ (by omega)
         have s0 := (hbel6.cell (p := ⟨sb, so + n3 * 2, none⟩) (Nat.lt_trans hsb1 hqn6)).trans (hsc n3 hp).1
         have s1 := (hbel6.cell (p := ⟨sb, so + n3 * 2 + 1, none⟩) (Nat.lt_trans hsb1 hqn6)).trans (hsc n3 hp).2
         have HX3 := Lib.hid (List.getElem?_append_left (l₂ := h.neg) hp)
         have HX4 := Lib.hid (List.getElem?_eq_getElem hp)
         clear hsc
         have hx1 := (hw.pos _ (List.getElem_mem hp)).2.1
         have hsw : sb < wr.heap.size := Nat.lt_trans hsb1 hqw
         have s0' := fun o => (((Below.refl wr.heap.size wr).alloc (Nat.le_refl _) o).cell (p := ⟨sb, so + n3 * 2, none⟩) hsw).trans s0
         have s1' := fun o => (((Below.refl wr.heap.size wr).alloc (Nat.le_refl _) o).cell (p := ⟨sb, so + n3 * 2 + 1, none⟩) hsw).trans s1
         generalize h.pos[n3] = q at *
         obtain ⟨x0, x1⟩ := q
         go_upto_region 29 with fail
         obtain ⟨B326p, hB326p⟩ : ∃ B : Bool, RowKit.Hid (B = ((((x1 : Int)) == ((0 : Int))))) := ⟨_, rfl⟩
         obtain ⟨C328p, hC328p⟩ : ∃ B : Bool, RowKit.Hid (B = (true && (B326p == false))) := ⟨_, rfl⟩
         obtain ⟨B330p, hB330p⟩ : ∃ B : Bool, RowKit.Hid (B = (decide (((60 : Int)) < ((x1 : Int))))) := ⟨_, rfl⟩
         obtain ⟨B331p, hB331p⟩ : ∃ B : Bool, RowKit.Hid (B = ((B326p) || (B330p))) := ⟨_, rfl⟩
         obtain ⟨C333p, hC333p⟩ : ∃ B : Bool, RowKit.Hid (B = (true && (B331p == false))) := ⟨_, rfl⟩
         obtain ⟨B335p, hB335p⟩ : ∃ B : Bool, RowKit.Hid (B = (decide (((2000 : Int)) < ((x0 : Int))))) := ⟨_, rfl⟩
         obtain ⟨B336p, hB336p⟩ : ∃ B : Bool, RowKit.Hid (B = ((B331p) || (B335p))) := ⟨_, rfl⟩
         obtain ⟨C338p, hC338p⟩ : ∃ B : Bool, RowKit.Hid (B = (true && (B336p == false))) := ⟨_, rfl⟩
         obtain ⟨B340p, hB340p⟩ : ∃ B : Bool, RowKit.Hid (B = (decide (((x0 : Int)) < ((-2000 : Int))))) := ⟨_, rfl⟩
         obtain ⟨B341p, hB341p⟩ : ∃ B : Bool, RowKit.Hid (B = ((B336p) || (B340p))) := ⟨_, rfl⟩
         obtain ⟨Fp, hFp⟩ : ∃ F : Tmp → Value → Prop, F = (fun s zz => match s with
           | 324 => zz = .pointer (some ⟨wr.heap.size, 1, none⟩)
           | 325 => zz = .int .u32 (x1)
           | 326 => zz = .bool B326p
           | 327 => zz = .bool B326p
           | 328 => zz = if C328p = true then .pointer (some ⟨wr.heap.size, 1, none⟩) else undef
           | 329 => zz = if C328p = true then .int .u32 (x1) else undef
           | 330 => zz = if C328p = true then .bool B330p else undef
           | 331 => zz = .bool B331p
           | 332 => zz = .bool B331p
           | 333 => zz = if C333p = true then .pointer (some ⟨wr.heap.size, 0, none⟩) else undef
           | 334 => zz = if C333p = true then .int .i32 (x0) else undef
           | 335 => zz = if C333p = true then .bool B335p else undef
           | 336 => zz = .bool B336p
           | 337 => zz = .bool B336p
           | 338 => zz = if C338p = true then .pointer (some ⟨wr.heap.size, 0, none⟩) else undef
           | 339 => zz = if C338p = true then .int .i32 (x0) else undef
           | 340 => zz = if C338p = true then .bool B340p else undef
           | 341 => zz = .bool B341p
           | _ => True) := ⟨_, rfl⟩
         refine Rg.region_pure2 Fp [324, 325, 326, 327, 328, 329, 330, 331, 332, 333, 334, 335, 336, 337, 338, 339, 340, 341] (fun up => ⟨#[.agg #[.int .u8 h.hint, .int .i32 h.schema, .int .u64 h.thr, .int .u64 h.sum, .int .u64 h.zc, .int .u64 h.cnt, .slice (some ⟨sb, so, none⟩) h.pos.length c1, .slice a2 h.neg.length c2, .slice a3 h.ups.length c3, .slice a4 h.downs.length c4, .slice a5 h.fups.length c5, .slice a6 h.fdowns.length c6, .slice a7 h.cus.length c7], .bool fl, .pointer (some ⟨w.heap.size, 0, none⟩), undef, u4, .bool cus, .slice ax lA.length cx, .bool okA, .slice ay lB.length cy, .bool okB, .slice a4' (lA.length + lB.length) c4', .int .i64 most, .int .i64 k, .int .i64 n2, .int .i64 n3, .pointer (some ⟨wr.heap.size, 0, none⟩), u16, u17, u18, u19, u20, u21, u22, u23, u24, u25, u26, u27, u28, u29, u30, u31, u32, u33, u34, u35, u36, u37, u38, u39, u40, u41, u42, u43, u44, u45, u46, u47, u48, u49, u50, u51, u52, u53, u54, u55, u56, u57, u58, u59, u60, u61, u62, u63, u64, u65, u66, u67, u68, u69, u70, u71, u72, u73, u74, u75, u76, u77, u78, u79, u80, u81, u82, u83, u84, u85, u86, u87, u88, u89, u90, u91, u92, u93, u94, u95, u96, u97, u98, u99, u100, u101, u102, u103, u104, u105, u106, u107, u108, u109, u110, u111, u112, u113, u114, u115, u116, u117, u118, u119, u120, u121, u122, u123, u124, u125, u126, u127, u128, u129, u130, u131, u132, u133, u134, u135, u136, u137, u138, u139, u140, u141, u142, u143, u144, u145, u146, u147, u148, u149, u150, u151, u152, u153, u154, u155, u156, u157, u158, u159, u160, u161, u162, u163, u164, u165, u166, u167, u168, u169, u170, u171, u172, u173, u174, u175, u176, u177, u178, u179, u180, .int .i64 k, .slice a4' (lA.length + lB.length) c4', .int .i64 ((lA.length : Int) + (lB.length : Int)), .bool false, u185, u186, u187, u188, u189, u190, u191, u192, u193, u194, u195, u196, u197, u198, u199, u200, u201, u202, u203, u204, u205, u206, u207, u208, u209, u210, u211, u212, u213, u214, u215, u216, u217, u218, u219, u220, u221, u222, u223, u224, u225, u226, u227, u228, u229, u230, u231, u232, u233, u234, u235, u236, u237, u238, u239, u240, u241, u242, u243, u244, u245, u246, u247, u248, u249, .int .i64 n2, .pointer (some ⟨w.heap.size, 12, none⟩), .slice a7 h.cus.length c7, .int .i64 (h.cus.length : Int), .bool false, u255, u256, u257, u258, u259, u260, u261, u262, u263, u264, u265, u266, u267, u268, u269, u270, u271, u272, u273, u274, u275, u276, u277, u278, u279, u280, u281, u282, u283, u284, u285, u286, u287, u288, u289, u290, u291, u292, .int .i64 n3, .pointer (some ⟨w.heap.size, 6, none⟩), .slice (some ⟨sb, so, none⟩) h.pos.length c1, .int .i64 h.pos.length, .pointer (some ⟨w.heap.size, 7, none⟩), .slice a2 h.neg.length c2, .int .i64 h.neg.length, .int .i64 ((h.pos.length : Int) + (h.neg.length : Int)), .bool (decide ((n3 : Int) < (h.pos.length : Int) + (h.neg.length : Int))), u302, u303, .agg #[.int .i32 0, .int .u32 0], .int .i64 n3, .pointer (some ⟨w.heap.size, 6, none⟩), .slice (some ⟨sb, so, none⟩) h.pos.length c1, .int .i64 h.pos.length, .bool true, .pointer (some ⟨w.heap.size, 6, none⟩), .slice (some ⟨sb, so, none⟩) h.pos.length c1, .int .i64 n3, .pointer (some ⟨sb, so + n3 * 2, none⟩), .agg #[.int .i32 x0, .int .u32 x1], u315, u316, u317, u318, u319, u320, u321, u322, u323, up 324, up 325, up 326, up 327, up 328, up 329, up 330, up 331, up 332, up 333, up 334, up 335, up 336, up 337, up 338, up 339, up 340, up 341, u342, u343, u344, u345, u346, u347, u348, u349, u350, u351, u352, u353, u354, u355, u356, u357, u358, u359, u360, u361, u362, u363, u364, u365], []⟩) (fun _ => by as_aux_lemma => kernel_rfl) (by as_aux_lemma => kernel_rfl) (by as_aux_lemma => kernel_rfl) (by as_aux_lemma => kernel_rfl) (by as_aux_lemma => kernel_rfl) ?stp ?_
         case stp =>
          refine ⟨?_, ?_, ?_, ?_, ?_, ?_, ?_, ?_, ?_, ?_, ?_, ?_, ?_, ?_, ?_, ?_, ?_, ?_, trivial⟩
          skip
          ·as_aux_lemma =>
           refine Rg.stepR_free (.pointer (some ⟨wr.heap.size, 1, none⟩)) (by rfl) (fun a hr => ?_) (by rw [hFp]; rfl)
           have z15 := Rg.read_old hr 15 (by kernel_rfl) (by kernel_rfl); have r15 : a.eval (.tmp 15) = .pointer (some ⟨wr.heap.size, 0, none⟩) := z15; clear z15; generalize a.eval = ρ at *; clear hr; go_simp
          ·as_aux_lemma =>
           refine Rg.stepR_free (.int .u32 (x1)) (by rfl) (fun a hr => ?_) (by rw [hFp]; rfl)
           have z324 := Rg.read_new hr 324 (by kernel_rfl) (by kernel_rfl); rw [hFp] at z324; have r324 : a.eval (.tmp 324) = .pointer (some ⟨wr.heap.size, 1, none⟩) := z324; clear z324; generalize a.eval = ρ at *; clear hr; go_simp
          ·as_aux_lemma =>
           refine Rg.stepR_free (.bool B326p) (by rfl) (fun a hr => ?_) (by rw [hFp]; rfl)
           have z325 := Rg.read_new hr 325 (by kernel_rfl) (by kernel_rfl); rw [hFp] at z325; have r325 : a.eval (.tmp 325) = .int .u32 (x1) := z325; clear z325; have rc : ∀ v, a.eval (.const v) = v := fun _ => rfl; rw [show B326p = _ from hB326p.out]; generalize a.eval = ρ at *; clear hr; go_simp
          ·as_aux_lemma =>
           refine Rg.stepR_free (.bool B326p) (by rfl) (fun a hr => ?_) (by rw [hFp]; rfl)
           have z326 := Rg.read_new hr 326 (by kernel_rfl) (by kernel_rfl); rw [hFp] at z326; have r326 : a.eval (.tmp 326) = .bool B326p := z326; clear z326; generalize a.eval = ρ at *; clear hr; go_simp
          ·as_aux_lemma =>
           have hC := hC328p.out
           refine Rg.stepR_guarded (.pointer (some ⟨wr.heap.size, 1, none⟩)) true B326p 3 false 327 (by rfl) (by kernel_rfl) (by kernel_rfl) (by kernel_rfl) (fun x hx => by rw [hFp] at hx; exact hx) (fun hc a hr => ?_) (fun hc => ?_) (fun hc => ?_)
           ·have z15 := Rg.read_old hr 15 (by kernel_rfl) (by kernel_rfl); have r15 : a.eval (.tmp 15) = .pointer (some ⟨wr.heap.size, 0, none⟩) := z15; clear z15; rw [← hC] at hc; clear hC; generalize a.eval = ρ at *; clear hr; go_simp
           ·rw [← hC] at hc; rw [hFp]; show _ = ite _ _ _; rw [if_pos hc]
           ·rw [← hC] at hc; rw [hFp]; show _ = ite _ _ _; rw [if_neg (by rw [hc]; decide)]
          ·as_aux_lemma =>
           have hC := hC328p.out
           refine Rg.stepR_guarded (.int .u32 (x1)) true B326p 3 false 327 (by rfl) (by kernel_rfl) (by kernel_rfl) (by kernel_rfl) (fun x hx => by rw [hFp] at hx; exact hx) (fun hc a hr => ?_) (fun hc => ?_) (fun hc => ?_)
           ·have z328 := Rg.read_new hr 328 (by kernel_rfl) (by kernel_rfl); rw [hFp] at z328; have r328 : a.eval (.tmp 328) = if C328p = true then .pointer (some ⟨wr.heap.size, 1, none⟩) else undef := z328; clear z328; rw [← hC] at hc; clear hC; rw [if_pos hc] at r328; generalize a.eval = ρ at *; clear hr; go_simp
           ·rw [← hC] at hc; rw [hFp]; show _ = ite _ _ _; rw [if_pos hc]
           ·rw [← hC] at hc; rw [hFp]; show _ = ite _ _ _; rw [if_neg (by rw [hc]; decide)]
          ·as_aux_lemma =>
           have hC := hC328p.out
           refine Rg.stepR_guarded (.bool B330p) true B326p 3 false 327 (by rfl) (by kernel_rfl) (by kernel_rfl) (by kernel_rfl) (fun x hx => by rw [hFp] at hx; exact hx) (fun hc a hr => ?_) (fun hc => ?_) (fun hc => ?_)
           ·have z329 := Rg.read_new hr 329 (by kernel_rfl) (by kernel_rfl); rw [hFp] at z329; have r329 : a.eval (.tmp 329) = if C328p = true then .int .u32 (x1) else undef := z329; clear z329; rw [← hC] at hc; clear hC; rw [if_pos hc] at r329; have rc : ∀ v, a.eval (.const v) = v := fun _ => rfl; rw [show B330p = _ from hB330p.out]; generalize a.eval = ρ at *; clear hr; go_simp
           ·rw [← hC] at hc; rw [hFp]; show _ = ite _ _ _; rw [if_pos hc]
           ·rw [← hC] at hc; rw [hFp]; show _ = ite _ _ _; rw [if_neg (by rw [hc]; decide)]
          ·as_aux_lemma =>
           refine Rg.stepR_free (.bool B331p) (by rfl) (fun a hr => ?_) (by rw [hFp]; rfl)
           have z327 := Rg.read_new hr 327 (by kernel_rfl) (by kernel_rfl); rw [hFp] at z327; have r327 : a.eval (.tmp 327) = .bool B326p := z327; clear z327; have z330 := Rg.read_new hr 330 (by kernel_rfl) (by kernel_rfl); rw [hFp] at z330; have r330 : a.eval (.tmp 330) = if C328p = true then .bool B330p else undef := z330; clear z330; have rc : ∀ v, a.eval (.const v) = v := fun _ => rfl; rw [show B331p = _ from hB331p.out]; have e330 := hC328p.out; clear hr; generalize a.eval = ρ at *; cases B326p <;> simp [e330] at r330 <;> (simp [r327, r330, rc, go_sem, execOp])
          ·as_aux_lemma =>
           refine Rg.stepR_free (.bool B331p) (by rfl) (fun a hr => ?_) (by rw [hFp]; rfl)
           have z331 := Rg.read_new hr 331 (by kernel_rfl) (by kernel_rfl); rw [hFp] at z331; have r331 : a.eval (.tmp 331) = .bool B331p := z331; clear z331; generalize a.eval = ρ at *; clear hr; go_simp
          ·as_aux_lemma =>
           have hC := hC333p.out
           refine Rg.stepR_guarded (.pointer (some ⟨wr.heap.size, 0, none⟩)) true B331p 8 false 332 (by rfl) (by kernel_rfl) (by kernel_rfl) (by kernel_rfl) (fun x hx => by rw [hFp] at hx; exact hx) (fun hc a hr => ?_) (fun hc => ?_) (fun hc => ?_)
           ·have z15 := Rg.read_old hr 15 (by kernel_rfl) (by kernel_rfl); have r15 : a.eval (.tmp 15) = .pointer (some ⟨wr.heap.size, 0, none⟩) := z15; clear z15; rw [← hC] at hc; clear hC; generalize a.eval = ρ at *; clear hr; go_simp
           ·rw [← hC] at hc; rw [hFp]; show _ = ite _ _ _; rw [if_pos hc]
           ·rw [← hC] at hc; rw [hFp]; show _ = ite _ _ _; rw [if_neg (by rw [hc]; decide)]
          ·as_aux_lemma =>
           have hC := hC333p.out
           refine Rg.stepR_guarded (.int .i32 (x0)) true B331p 8 false 332 (by rfl) (by kernel_rfl) (by kernel_rfl) (by kernel_rfl) (fun x hx => by rw [hFp] at hx; exact hx) (fun hc a hr => ?_) (fun hc => ?_) (fun hc => ?_)
           ·have z333 := Rg.read_new hr 333 (by kernel_rfl) (by kernel_rfl); rw [hFp] at z333; have r333 : a.eval (.tmp 333) = if C333p = true then .pointer (some ⟨wr.heap.size, 0, none⟩) else undef := z333; clear z333; rw [← hC] at hc; clear hC; rw [if_pos hc] at r333; generalize a.eval = ρ at *; clear hr; go_simp
           ·rw [← hC] at hc; rw [hFp]; show _ = ite _ _ _; rw [if_pos hc]
           ·rw [← hC] at hc; rw [hFp]; show _ = ite _ _ _; rw [if_neg (by rw [hc]; decide)]
          ·as_aux_lemma =>
           have hC := hC333p.out
           refine Rg.stepR_guarded (.bool B335p) true B331p 8 false 332 (by rfl) (by kernel_rfl) (by kernel_rfl) (by kernel_rfl) (fun x hx => by rw [hFp] at hx; exact hx) (fun hc a hr => ?_) (fun hc => ?_) (fun hc => ?_)
           ·have z334 := Rg.read_new hr 334 (by kernel_rfl) (by kernel_rfl); rw [hFp] at z334; have r334 : a.eval (.tmp 334) = if C333p = true then .int .i32 (x0) else undef := z334; clear z334; rw [← hC] at hc; clear hC; rw [if_pos hc] at r334; have rc : ∀ v, a.eval (.const v) = v := fun _ => rfl; rw [show B335p = _ from hB335p.out]; generalize a.eval = ρ at *; clear hr; go_simp
           ·rw [← hC] at hc; rw [hFp]; show _ = ite _ _ _; rw [if_pos hc]
           ·rw [← hC] at hc; rw [hFp]; show _ = ite _ _ _; rw [if_neg (by rw [hc]; decide)]
          ·as_aux_lemma =>
           refine Rg.stepR_free (.bool B336p) (by rfl) (fun a hr => ?_) (by rw [hFp]; rfl)
           have z332 := Rg.read_new hr 332 (by kernel_rfl) (by kernel_rfl); rw [hFp] at z332; have r332 : a.eval (.tmp 332) = .bool B331p := z332; clear z332; have z335 := Rg.read_new hr 335 (by kernel_rfl) (by kernel_rfl); rw [hFp] at z335; have r335 : a.eval (.tmp 335) = if C333p = true then .bool B335p else undef := z335; clear z335; have rc : ∀ v, a.eval (.const v) = v := fun _ => rfl; rw [show B336p = _ from hB336p.out]; have e335 := hC333p.out; clear hr; generalize a.eval = ρ at *; cases B331p <;> simp [e335] at r335 <;> (simp [r332, r335, rc, go_sem, execOp])
          ·as_aux_lemma =>
           refine Rg.stepR_free (.bool B336p) (by rfl) (fun a hr => ?_) (by rw [hFp]; rfl)
           have z336 := Rg.read_new hr 336 (by kernel_rfl) (by kernel_rfl); rw [hFp] at z336; have r336 : a.eval (.tmp 336) = .bool B336p := z336; clear z336; generalize a.eval = ρ at *; clear hr; go_simp
          ·as_aux_lemma =>
           have hC := hC338p.out
           refine Rg.stepR_guarded (.pointer (some ⟨wr.heap.size, 0, none⟩)) true B336p 13 false 337 (by rfl) (by kernel_rfl) (by kernel_rfl) (by kernel_rfl) (fun x hx => by rw [hFp] at hx; exact hx) (fun hc a hr => ?_) (fun hc => ?_) (fun hc => ?_)
           ·have z15 := Rg.read_old hr 15 (by kernel_rfl) (by kernel_rfl); have r15 : a.eval (.tmp 15) = .pointer (some ⟨wr.heap.size, 0, none⟩) := z15; clear z15; rw [← hC] at hc; clear hC; generalize a.eval = ρ at *; clear hr; go_simp
           ·rw [← hC] at hc; rw [hFp]; show _ = ite _ _ _; rw [if_pos hc]
           ·rw [← hC] at hc; rw [hFp]; show _ = ite _ _ _; rw [if_neg (by rw [hc]; decide)]
          ·as_aux_lemma =>
           have hC := hC338p.out
           refine Rg.stepR_guarded (.int .i32 (x0)) true B336p 13 false 337 (by rfl) (by kernel_rfl) (by kernel_rfl) (by kernel_rfl) (fun x hx => by rw [hFp] at hx; exact hx) (fun hc a hr => ?_) (fun hc => ?_) (fun hc => ?_)
           ·have z338 := Rg.read_new hr 338 (by kernel_rfl) (by kernel_rfl); rw [hFp] at z338; have r338 : a.eval (.tmp 338) = if C338p = true then .pointer (some ⟨wr.heap.size, 0, none⟩) else undef := z338; clear z338; rw [← hC] at hc; clear hC; rw [if_pos hc] at r338; generalize a.eval = ρ at *; clear hr; go_simp
           ·rw [← hC] at hc; rw [hFp]; show _ = ite _ _ _; rw [if_pos hc]
           ·rw [← hC] at hc; rw [hFp]; show _ = ite _ _ _; rw [if_neg (by rw [hc]; decide)]
          ·as_aux_lemma =>
           have hC := hC338p.out
           refine Rg.stepR_guarded (.bool B340p) true B336p 13 false 337 (by rfl) (by kernel_rfl) (by kernel_rfl) (by kernel_rfl) (fun x hx => by rw [hFp] at hx; exact hx) (fun hc a hr => ?_) (fun hc => ?_) (fun hc => ?_)
           ·have z339 := Rg.read_new hr 339 (by kernel_rfl) (by kernel_rfl); rw [hFp] at z339; have r339 : a.eval (.tmp 339) = if C338p = true then .int .i32 (x0) else undef := z339; clear z339; rw [← hC] at hc; clear hC; rw [if_pos hc] at r339; have rc : ∀ v, a.eval (.const v) = v := fun _ => rfl; rw [show B340p = _ from hB340p.out]; generalize a.eval = ρ at *; clear hr; go_simp
           ·rw [← hC] at hc; rw [hFp]; show _ = ite _ _ _; rw [if_pos hc]
           ·rw [← hC] at hc; rw [hFp]; show _ = ite _ _ _; rw [if_neg (by rw [hc]; decide)]
          ·as_aux_lemma =>
           refine Rg.stepR_free (.bool B341p) (by rfl) (fun a hr => ?_) (by rw [hFp]; rfl)
           have z337 := Rg.read_new hr 337 (by kernel_rfl) (by kernel_rfl); rw [hFp] at z337; have r337 : a.eval (.tmp 337) = .bool B336p := z337; clear z337; have z340 := Rg.read_new hr 340 (by kernel_rfl) (by kernel_rfl); rw [hFp] at z340; have r340 : a.eval (.tmp 340) = if C338p = true then .bool B340p else undef := z340; clear z340; have rc : ∀ v, a.eval (.const v) = v := fun _ => rfl; rw [show B341p = _ from hB341p.out]; have e340 := hC338p.out; clear hr; generalize a.eval = ρ at *; cases B336p <;> simp [e340] at r340 <;> (simp [r337, r340, rc, go_sem, execOp])
         intro up hup
         have e341 : up 341 = .bool B341p := by have z := hup 341 (by rfl); rw [hFp] at z; exact z
         clear hup
         simp only [e341]
         clear e341
         have HG : Hid (B341p = false → GoodS (x0, x1)) := fun hc => by
          have z := hB341p.out.symm.trans hc
          simp only [hB326p.out, hB330p.out, hB331p.out, hB335p.out, hB336p.out, hB340p.out, Bool.or_eq_false_iff, Bool.and_eq_false_imp, Bool.not_eq_true', Bool.not_eq_false', decide_eq_false_iff_not, beq_eq_false_iff_ne] at z
          obtain ⟨⟨⟨z1, z2⟩, z3⟩, z4⟩ := z
          exact ⟨by have := hx1; omega, by omega, by omega, by omega⟩
         clear hFp hB326p hC328p hB330p hB331p hC333p hB335p hB336p hC338p hB340p hB341p
         cases B341p with
         | true =>
          go_wp2
          go_ret
          exact fitPost_no (hbw6.alloc hbw6.size _)
         | false =>
          go_wp2
          go_roundw
          case rel =>
           refine ⟨n3 + 1, by omega, by simp, fun j x hj hx => ?_, hbel6.alloc hbel6.size _⟩
           by_cases hjk : j = n3
           ·subst hjk
            rw [HX3.out, HX4.out] at hx
            cases hx
            exact HG.out rfl
           ·exact hgood j x (by omega) hx
          case measure => simp [intOf]; omega
        ·obtain ⟨m, hm⟩ : ∃ m, n3 = h.pos.length + m := ⟨n3 - h.pos.length, by omega⟩
         subst hm
         have hpn : m < h.neg.length := by omega
         obtain ⟨sb, so, rfl, hsb1, hsb2, hsc⟩ := hns.at_ (by omega)
         have s0 := (hbel6.cell (p := ⟨sb, so + m * 2, none⟩) (Nat.lt_trans hsb1 hqn6)).trans (hsc m hpn).1
         have s1 := (hbel6.cell (p := ⟨sb, so + m * 2 + 1, none⟩) (Nat.lt_trans hsb1 hqn6)).trans (hsc m hpn).2
         have HX3 : Hid ((h.pos ++ h.neg)[h.pos.length + m]? = h.neg[m]?) := by
          have := List.getElem?_append_right (l₁ := h.pos) (l₂ := h.neg) (Nat.le_add_right h.pos.length m)
          rw [Nat.add_sub_cancel_left] at this
          exact this
         have HX4 := Lib.hid (List.getElem?_eq_getElem hpn)
         have hx1 := (hw.neg _ (List.getElem_mem hpn)).2.1
         clear hsc
         have hsw : sb < wr.heap.size := Nat.lt_trans hsb1 hqw
         have s0' := fun o => (((Below.refl wr.heap.size wr).alloc (Nat.le_refl _) o).cell (p := ⟨sb, so + m * 2, none⟩) hsw).trans s0
         have s1' := fun o => (((Below.refl wr.heap.size wr).alloc (Nat.le_refl _) o).cell (p := ⟨sb, so + m * 2 + 1, none⟩) hsw).trans s1
         generalize h.neg[m] = q at *
         obtain ⟨x0, x1⟩ := q
         have hj0 : (0 : Int) ≤ (m : Int) := by omega
         have hj1 : (m : Int) < (h.neg.length : Int) := by omega
         have hj2 : ¬ ((h.pos.length : Int) + (m : Int) < (h.pos.length : Int)) := by omega
         go_upto_region 29 with fail
         obtain ⟨B326n, hB326n⟩ : ∃ B : Bool, RowKit.Hid (B = ((((x1 : Int)) == ((0 : Int))))) := ⟨_, rfl⟩
         obtain ⟨C328n, hC328n⟩ : ∃ B : Bool, RowKit.Hid (B = (true && (B326n == false))) := ⟨_, rfl⟩
         obtain ⟨B330n, hB330n⟩ : ∃ B : Bool, RowKit.Hid (B = (decide (((60 : Int)) < ((x1 : Int))))) := ⟨_, rfl⟩
         obtain ⟨B331n, hB331n⟩ : ∃ B : Bool, RowKit.Hid (B = ((B326n) || (B330n))) := ⟨_, rfl⟩
         obtain ⟨C333n, hC333n⟩ : ∃ B : Bool, RowKit.Hid (B = (true && (B331n == false))) := ⟨_, rfl⟩
         obtain ⟨B335n, hB335n⟩ : ∃ B : Bool, RowKit.Hid (B = (decide (((2000 : Int)) < ((x0 : Int))))) := ⟨_, rfl⟩
         obtain ⟨B336n, hB336n⟩ : ∃ B : Bool, RowKit.Hid (B = ((B331n) || (B335n))) := ⟨_, rfl⟩
         obtain ⟨C338n, hC338n⟩ : ∃ B : Bool, RowKit.Hid (B = (true && (B336n == false))) := ⟨_, rfl⟩
         obtain ⟨B340n, hB340n⟩ : ∃ B : Bool, RowKit.Hid (B = (decide (((x0 : Int)) < ((-2000 : Int))))) := ⟨_, rfl⟩
         obtain ⟨B341n, hB341n⟩ : ∃ B : Bool, RowKit.Hid (B = ((B336n) || (B340n))) := ⟨_, rfl⟩
         obtain ⟨Fn, hFn⟩ : ∃ F : Tmp → Value → Prop, F = (fun s zz => match s with
           | 324 => zz = .pointer (some ⟨wr.heap.size, 1, none⟩)
           | 325 => zz = .int .u32 (x1)
           | 326 => zz = .bool B326n
           | 327 => zz = .bool B326n
           | 328 => zz = if C328n = true then .pointer (some ⟨wr.heap.size, 1, none⟩) else undef
           | 329 => zz = if C328n = true then .int .u32 (x1) else undef
           | 330 => zz = if C328n = true then .bool B330n else undef
           | 331 => zz = .bool B331n
           | 332 => zz = .bool B331n
           | 333 => zz = if C333n = true then .pointer (some ⟨wr.heap.size, 0, none⟩) else undef
           | 334 => zz = if C333n = true then .int .i32 (x0) else undef
           | 335 => zz = if C333n = true then .bool B335n else undef
           | 336 => zz = .bool B336n
           | 337 => zz = .bool B336n
           | 338 => zz = if C338n = true then .pointer (some ⟨wr.heap.size, 0, none⟩) else undef
           | 339 => zz = if C338n = true then .int .i32 (x0) else undef
           | 340 => zz = if C338n = true then .bool B340n else undef
           | 341 => zz = .bool B341n
           | _ => True) := ⟨_, rfl⟩
         refine Rg.region_pure2 Fn [324, 325, 326, 327, 328, 329, 330, 331, 332, 333, 334, 335, 336, 337, 338, 339, 340, 341] (fun un => ⟨#[.agg #[.int .u8 h.hint, .int .i32 h.schema, .int .u64 h.thr, .int .u64 h.sum, .int .u64 h.zc, .int .u64 h.cnt, .slice a1 h.pos.length c1, .slice (some ⟨sb, so, none⟩) h.neg.length c2, .slice a3 h.ups.length c3, .slice a4 h.downs.length c4, .slice a5 h.fups.length c5, .slice a6 h.fdowns.length c6, .slice a7 h.cus.length c7], .bool fl, .pointer (some ⟨w.heap.size, 0, none⟩), undef, u4, .bool cus, .slice ax lA.length cx, .bool okA, .slice ay lB.length cy, .bool okB, .slice a4' (lA.length + lB.length) c4', .int .i64 most, .int .i64 k, .int .i64 n2, .int .i64 ((h.pos.length + m : Nat) : Int), .pointer (some ⟨wr.heap.size, 0, none⟩), u16, u17, u18, u19, u20, u21, u22, u23, u24, u25, u26, u27, u28, u29, u30, u31, u32, u33, u34, u35, u36, u37, u38, u39, u40, u41, u42, u43, u44, u45, u46, u47, u48, u49, u50, u51, u52, u53, u54, u55, u56, u57, u58, u59, u60, u61, u62, u63, u64, u65, u66, u67, u68, u69, u70, u71, u72, u73, u74, u75, u76, u77, u78, u79, u80, u81, u82, u83, u84, u85, u86, u87, u88, u89, u90, u91, u92, u93, u94, u95, u96, u97, u98, u99, u100, u101, u102, u103, u104, u105, u106, u107, u108, u109, u110, u111, u112, u113, u114, u115, u116, u117, u118, u119, u120, u121, u122, u123, u124, u125, u126, u127, u128, u129, u130, u131, u132, u133, u134, u135, u136, u137, u138, u139, u140, u141, u142, u143, u144, u145, u146, u147, u148, u149, u150, u151, u152, u153, u154, u155, u156, u157, u158, u159, u160, u161, u162, u163, u164, u165, u166, u167, u168, u169, u170, u171, u172, u173, u174, u175, u176, u177, u178, u179, u180, .int .i64 k, .slice a4' (lA.length + lB.length) c4', .int .i64 ((lA.length : Int) + (lB.length : Int)), .bool false, u185, u186, u187, u188, u189, u190, u191, u192, u193, u194, u195, u196, u197, u198, u199, u200, u201, u202, u203, u204, u205, u206, u207, u208, u209, u210, u211, u212, u213, u214, u215, u216, u217, u218, u219, u220, u221, u222, u223, u224, u225, u226, u227, u228, u229, u230, u231, u232, u233, u234, u235, u236, u237, u238, u239, u240, u241, u242, u243, u244, u245, u246, u247, u248, u249, .int .i64 n2, .pointer (some ⟨w.heap.size, 12, none⟩), .slice a7 h.cus.length c7, .int .i64 (h.cus.length : Int), .bool false, u255, u256, u257, u258, u259, u260, u261, u262, u263, u264, u265, u266, u267, u268, u269, u270, u271, u272, u273, u274, u275, u276, u277, u278, u279, u280, u281, u282, u283, u284, u285, u286, u287, u288, u289, u290, u291, u292, .int .i64 ((h.pos.length + m : Nat) : Int), .pointer (some ⟨w.heap.size, 6, none⟩), .slice a1 h.pos.length c1, .int .i64 h.pos.length, .pointer (some ⟨w.heap.size, 7, none⟩), .slice (some ⟨sb, so, none⟩) h.neg.length c2, .int .i64 h.neg.length, .int .i64 ((h.pos.length : Int) + (h.neg.length : Int)), .bool true, u302, u303, .agg #[.int .i32 0, .int .u32 0], .int .i64 ((h.pos.length + m : Nat) : Int), .pointer (some ⟨w.heap.size, 6, none⟩), .slice a1 h.pos.length c1, .int .i64 h.pos.length, .bool false, u310, u311, u312, u313, u314, .pointer (some ⟨w.heap.size, 7, none⟩), .slice (some ⟨sb, so, none⟩) h.neg.length c2, .int .i64 ((h.pos.length + m : Nat) : Int), .pointer (some ⟨w.heap.size, 6, none⟩), .slice a1 h.pos.length c1, .int .i64 h.pos.length, .int .i64 ((h.pos.length : Int) + (m : Int) - (h.pos.length : Int)), .pointer (some ⟨sb, so + (h.pos.length + m - h.pos.length) * 2, none⟩), .agg #[.int .i32 x0, .int .u32 x1], un 324, un 325, un 326, un 327, un 328, un 329, un 330, un 331, un 332, un 333, un 334, un 335, un 336, un 337, un 338, un 339, un 340, un 341, u342, u343, u344, u345, u346, u347, u348, u349, u350, u351, u352, u353, u354, u355, u356, u357, u358, u359, u360, u361, u362, u363, u364, u365], []⟩) (fun _ => by as_aux_lemma => kernel_rfl) (by as_aux_lemma => kernel_rfl) (by as_aux_lemma => kernel_rfl) (by as_aux_lemma => kernel_rfl) (by as_aux_lemma => kernel_rfl) ?stn ?_
         case stn =>
          refine ⟨?_, ?_, ?_, ?_, ?_, ?_, ?_, ?_, ?_, ?_, ?_, ?_, ?_, ?_, ?_, ?_, ?_, ?_, trivial⟩
          skip
          ·as_aux_lemma =>
           refine Rg.stepR_free (.pointer (some ⟨wr.heap.size, 1, none⟩)) (by rfl) (fun a hr => ?_) (by rw [hFn]; rfl)
           have z15 := Rg.read_old hr 15 (by kernel_rfl) (by kernel_rfl); have r15 : a.eval (.tmp 15) = .pointer (some ⟨wr.heap.size, 0, none⟩) := z15; clear z15; generalize a.eval = ρ at *; clear hr; go_simp
          ·as_aux_lemma =>
           refine Rg.stepR_free (.int .u32 (x1)) (by rfl) (fun a hr => ?_) (by rw [hFn]; rfl)
           have z324 := Rg.read_new hr 324 (by kernel_rfl) (by kernel_rfl); rw [hFn] at z324; have r324 : a.eval (.tmp 324) = .pointer (some ⟨wr.heap.size, 1, none⟩) := z324; clear z324; generalize a.eval = ρ at *; clear hr; go_simp
          ·as_aux_lemma =>
           refine Rg.stepR_free (.bool B326n) (by rfl) (fun a hr => ?_) (by rw [hFn]; rfl)
           have z325 := Rg.read_new hr 325 (by kernel_rfl) (by kernel_rfl); rw [hFn] at z325; have r325 : a.eval (.tmp 325) = .int .u32 (x1) := z325; clear z325; have rc : ∀ v, a.eval (.const v) = v := fun _ => rfl; rw [show B326n = _ from hB326n.out]; generalize a.eval = ρ at *; clear hr; go_simp
          ·as_aux_lemma =>
           refine Rg.stepR_free (.bool B326n) (by rfl) (fun a hr => ?_) (by rw [hFn]; rfl)
           have z326 := Rg.read_new hr 326 (by kernel_rfl) (by kernel_rfl); rw [hFn] at z326; have r326 : a.eval (.tmp 326) = .bool B326n := z326; clear z326; generalize a.eval = ρ at *; clear hr; go_simp
          ·as_aux_lemma =>
           have hC := hC328n.out
           refine Rg.stepR_guarded (.pointer (some ⟨wr.heap.size, 1, none⟩)) true B326n 3 false 327 (by rfl) (by kernel_rfl) (by kernel_rfl) (by kernel_rfl) (fun x hx => by rw [hFn] at hx; exact hx) (fun hc a hr => ?_) (fun hc => ?_) (fun hc => ?_)
           ·have z15 := Rg.read_old hr 15 (by kernel_rfl) (by kernel_rfl); have r15 : a.eval (.tmp 15) = .pointer (some ⟨wr.heap.size, 0, none⟩) := z15; clear z15; rw [← hC] at hc; clear hC; generalize a.eval = ρ at *; clear hr; go_simp
           ·rw [← hC] at hc; rw [hFn]; show _ = ite _ _ _; rw [if_pos hc]
           ·rw [← hC] at hc; rw [hFn]; show _ = ite _ _ _; rw [if_neg (by rw [hc]; decide)]
          ·as_aux_lemma =>
           have hC := hC328n.out
           refine Rg.stepR_guarded (.int .u32 (x1)) true B326n 3 false 327 (by rfl) (by kernel_rfl) (by kernel_rfl) (by kernel_rfl) (fun x hx => by rw [hFn] at hx; exact hx) (fun hc a hr => ?_) (fun hc => ?_) (fun hc => ?_)
           ·have z328 := Rg.read_new hr 328 (by kernel_rfl) (by kernel_rfl); rw [hFn] at z328; have r328 : a.eval (.tmp 328) = if C328n = true then .pointer (some ⟨wr.heap.size, 1, none⟩) else undef := z328; clear z328; rw [← hC] at hc; clear hC; rw [if_pos hc] at r328; generalize a.eval = ρ at *; clear hr; go_simp
           ·rw [← hC] at hc; rw [hFn]; show _ = ite _ _ _; rw [if_pos hc]
           ·rw [← hC] at hc; rw [hFn]; show _ = ite _ _ _; rw [if_neg (by rw [hc]; decide)]
          ·as_aux_lemma =>
           have hC := hC328n.out
           refine Rg.stepR_guarded (.bool B330n) true B326n 3 false 327 (by rfl) (by kernel_rfl) (by kernel_rfl) (by kernel_rfl) (fun x hx => by rw [hFn] at hx; exact hx) (fun hc a hr => ?_) (fun hc => ?_) (fun hc => ?_)
           ·have z329 := Rg.read_new hr 329 (by kernel_rfl) (by kernel_rfl); rw [hFn] at z329; have r329 : a.eval (.tmp 329) = if C328n = true then .int .u32 (x1) else undef := z329; clear z329; rw [← hC] at hc; clear hC; rw [if_pos hc] at r329; have rc : ∀ v, a.eval (.const v) = v := fun _ => rfl; rw [show B330n = _ from hB330n.out]; generalize a.eval = ρ at *; clear hr; go_simp
           ·rw [← hC] at hc; rw [hFn]; show _ = ite _ _ _; rw [if_pos hc]
           ·rw [← hC] at hc; rw [hFn]; show _ = ite _ _ _; rw [if_neg (by rw [hc]; decide)]
          ·as_aux_lemma =>
           refine Rg.stepR_free (.bool B331n) (by rfl) (fun a hr => ?_) (by rw [hFn]; rfl)
           have z327 := Rg.read_new hr 327 (by kernel_rfl) (by kernel_rfl); rw [hFn] at z327; have r327 : a.eval (.tmp 327) = .bool B326n := z327; clear z327; have z330 := Rg.read_new hr 330 (by kernel_rfl) (by kernel_rfl); rw [hFn] at z330; have r330 : a.eval (.tmp 330) = if C328n = true then .bool B330n else undef := z330; clear z330; have rc : ∀ v, a.eval (.const v) = v := fun _ => rfl; rw [show B331n = _ from hB331n.out]; have e330 := hC328n.out; clear hr; generalize a.eval = ρ at *; cases B326n <;> simp [e330] at r330 <;> (simp [r327, r330, rc, go_sem, execOp])
          ·as_aux_lemma =>
           refine Rg.stepR_free (.bool B331n) (by rfl) (fun a hr => ?_) (by rw [hFn]; rfl)
           have z331 := Rg.read_new hr 331 (by kernel_rfl) (by kernel_rfl); rw [hFn] at z331; have r331 : a.eval (.tmp 331) = .bool B331n := z331; clear z331; generalize a.eval = ρ at *; clear hr; go_simp
          ·as_aux_lemma =>
           have hC := hC333n.out
           refine Rg.stepR_guarded (.pointer (some ⟨wr.heap.size, 0, none⟩)) true B331n 8 false 332 (by rfl) (by kernel_rfl) (by kernel_rfl) (by kernel_rfl) (fun x hx => by rw [hFn] at hx; exact hx) (fun hc a hr => ?_) (fun hc => ?_) (fun hc => ?_)
           ·have z15 := Rg.read_old hr 15 (by kernel_rfl) (by kernel_rfl); have r15 : a.eval (.tmp 15) = .pointer (some ⟨wr.heap.size, 0, none⟩) := z15; clear z15; rw [← hC] at hc; clear hC; generalize a.eval = ρ at *; clear hr; go_simp
           ·rw [← hC] at hc; rw [hFn]; show _ = ite _ _ _; rw [if_pos hc]
           ·rw [← hC] at hc; rw [hFn]; show _ = ite _ _ _; rw [if_neg (by rw [hc]; decide)]
          ·as_aux_lemma =>
           have hC := hC333n.out
           refine Rg.stepR_guarded (.int .i32 (x0)) true B331n 8 false 332 (by rfl) (by kernel_rfl) (by kernel_rfl) (by kernel_rfl) (fun x hx => by rw [hFn] at hx; exact hx) (fun hc a hr => ?_) (fun hc => ?_) (fun hc => ?_)
           ·have z333 := Rg.read_new hr 333 (by kernel_rfl) (by kernel_rfl); rw [hFn] at z333; have r333 : a.eval (.tmp 333) = if C333n = true then .pointer (some ⟨wr.heap.size, 0, none⟩) else undef := z333; clear z333; rw [← hC] at hc; clear hC; rw [if_pos hc] at r333; generalize a.eval = ρ at *; clear hr; go_simp
           ·rw [← hC] at hc; rw [hFn]; show _ = ite _ _ _; rw [if_pos hc]
           ·rw [← hC] at hc; rw [hFn]; show _ = ite _ _ _; rw [if_neg (by rw [hc]; decide)]
          ·as_aux_lemma =>
           have hC := hC333n.out
           refine Rg.stepR_guarded (.bool B335n) true B331n 8 false 332 (by rfl) (by kernel_rfl) (by kernel_rfl) (by kernel_rfl) (fun x hx => by rw [hFn] at hx; exact hx) (fun hc a hr => ?_) (fun hc => ?_) (fun hc => ?_)
           ·have z334 := Rg.read_new hr 334 (by kernel_rfl) (by kernel_rfl); rw [hFn] at z334; have r334 : a.eval (.tmp 334) = if C333n = true then .int .i32 (x0) else undef := z334; clear z334; rw [← hC] at hc; clear hC; rw [if_pos hc] at r334; have rc : ∀ v, a.eval (.const v) = v := fun _ => rfl; rw [show B335n = _ from hB335n.out]; generalize a.eval = ρ at *; clear hr; go_simp
           ·rw [← hC] at hc; rw [hFn]; show _ = ite _ _ _; rw [if_pos hc]
           ·rw [← hC] at hc; rw [hFn]; show _ = ite _ _ _; rw [if_neg (by rw [hc]; decide)]
          ·as_aux_lemma =>
           refine Rg.stepR_free (.bool B336n) (by rfl) (fun a hr => ?_) (by rw [hFn]; rfl)
           have z332 := Rg.read_new hr 332 (by kernel_rfl) (by kernel_rfl); rw [hFn] at z332; have r332 : a.eval (.tmp 332) = .bool B331n := z332; clear z332; have z335 := Rg.read_new hr 335 (by kernel_rfl) (by kernel_rfl); rw [hFn] at z335; have r335 : a.eval (.tmp 335) = if C333n = true then .bool B335n else undef := z335; clear z335; have rc : ∀ v, a.eval (.const v) = v := fun _ => rfl; rw [show B336n = _ from hB336n.out]; have e335 := hC333n.out; clear hr; generalize a.eval = ρ at *; cases B331n <;> simp [e335] at r335 <;> (simp [r332, r335, rc, go_sem, execOp])
          ·as_aux_lemma =>
           refine Rg.stepR_free (.bool B336n) (by rfl) (fun a hr => ?_) (by rw [hFn]; rfl)
           have z336 := Rg.read_new hr 336 (by kernel_rfl) (by kernel_rfl); rw [hFn] at z336; have r336 : a.eval (.tmp 336) = .bool B336n := z336; clear z336; generalize a.eval = ρ at *; clear hr; go_simp
          ·as_aux_lemma =>
           have hC := hC338n.out
           refine Rg.stepR_guarded (.pointer (some ⟨wr.heap.size, 0, none⟩)) true B336n 13 false 337 (by rfl) (by kernel_rfl) (by kernel_rfl) (by kernel_rfl) (fun x hx => by rw [hFn] at hx; exact hx) (fun hc a hr => ?_) (fun hc => ?_) (fun hc => ?_)
           ·have z15 := Rg.read_old hr 15 (by kernel_rfl) (by kernel_rfl); have r15 : a.eval (.tmp 15) = .pointer (some ⟨wr.heap.size, 0, none⟩) := z15; clear z15; rw [← hC] at hc; clear hC; generalize a.eval = ρ at *; clear hr; go_simp
           ·rw [← hC] at hc; rw [hFn]; show _ = ite _ _ _; rw [if_pos hc]
           ·rw [← hC] at hc; rw [hFn]; show _ = ite _ _ _; rw [if_neg (by rw [hc]; decide)]
          ·as_aux_lemma =>
           have hC := hC338n.out
           refine Rg.stepR_guarded (.int .i32 (x0)) true B336n 13 false 337 (by rfl) (by kernel_rfl) (by kernel_rfl) (by kernel_rfl) (fun x hx => by rw [hFn] at hx; exact hx) (fun hc a hr => ?_) (fun hc => ?_) (fun hc => ?_)
           ·have z338 := Rg.read_new hr 338 (by kernel_rfl) (by kernel_rfl); rw [hFn] at z338; have r338 : a.eval (.tmp 338) = if C338n = true then .pointer (some ⟨wr.heap.size, 0, none⟩) else undef := z338; clear z338; rw [← hC] at hc; clear hC; rw [if_pos hc] at r338; generalize a.eval = ρ at *; clear hr; go_simp
           ·rw [← hC] at hc; rw [hFn]; show _ = ite _ _ _; rw [if_pos hc]
           ·rw [← hC] at hc; rw [hFn]; show _ = ite _ _ _; rw [if_neg (by rw [hc]; decide)]
          ·as_aux_lemma =>
           have hC := hC338n.out
           refine Rg.stepR_guarded (.bool B340n) true B336n 13 false 337 (by rfl) (by kernel_rfl) (by kernel_rfl) (by kernel_rfl) (fun x hx => by rw [hFn] at hx; exact hx) (fun hc a hr => ?_) (fun hc => ?_) (fun hc => ?_)
           ·have z339 := Rg.read_new hr 339 (by kernel_rfl) (by kernel_rfl); rw [hFn] at z339; have r339 : a.eval (.tmp 339) = if C338n = true then .int .i32 (x0) else undef := z339; clear z339; rw [← hC] at hc; clear hC; rw [if_pos hc] at r339; have rc : ∀ v, a.eval (.const v) = v := fun _ => rfl; rw [show B340n = _ from hB340n.out]; generalize a.eval = ρ at *; clear hr; go_simp
           ·rw [← hC] at hc; rw [hFn]; show _ = ite _ _ _; rw [if_pos hc]
           ·rw [← hC] at hc; rw [hFn]; show _ = ite _ _ _; rw [if_neg (by rw [hc]; decide)]
          ·as_aux_lemma =>
           refine Rg.stepR_free (.bool B341n) (by rfl) (fun a hr => ?_) (by rw [hFn]; rfl)
           have z337 := Rg.read_new hr 337 (by kernel_rfl) (by kernel_rfl); rw [hFn] at z337; have r337 : a.eval (.tmp 337) = .bool B336n := z337; clear z337; have z340 := Rg.read_new hr 340 (by kernel_rfl) (by kernel_rfl); rw [hFn] at z340; have r340 : a.eval (.tmp 340) = if C338n = true then .bool B340n else undef := z340; clear z340; have rc : ∀ v, a.eval (.const v) = v := fun _ => rfl; rw [show B341n = _ from hB341n.out]; have e340 := hC338n.out; clear hr; generalize a.eval = ρ at *; cases B336n <;> simp [e340] at r340 <;> (simp [r337, r340, rc, go_sem, execOp])
         intro un hun
         have e341 : un 341 = .bool B341n := by have z := hun 341 (by rfl); rw [hFn] at z; exact z
         clear hun
         simp only [e341]
         clear e341
         have HG : Hid (B341n = false → GoodS (x0, x1)) := fun hc => by
          have z := hB341n.out.symm.trans hc
          simp only [hB326n.out, hB330n.out, hB331n.out, hB335n.out, hB336n.out, hB340n.out, Bool.or_eq_false_iff, Bool.and_eq_false_imp, Bool.not_eq_true', Bool.not_eq_false', decide_eq_false_iff_not, beq_eq_false_iff_ne] at z
          obtain ⟨⟨⟨z1, z2⟩, z3⟩, z4⟩ := z
          exact ⟨by have := hx1; omega, by omega, by omega, by omega⟩
         clear hFn hB326n hC328n hB330n hB331n hC333n hB335n hB336n hC338n hB340n hB341n
         cases B341n with
         | true =>
          go_wp2
          go_ret
          exact fitPost_no (hbw6.alloc hbw6.size _)
         | false =>
          go_wp2
          go_roundw
          case rel =>
           refine ⟨h.pos.length + m + 1, by omega, by simp, fun j x hj hx => ?_, hbel6.alloc hbel6.size _⟩
           by_cases hjk : j = h.pos.length + m
           ·subst hjk
            rw [HX3.out, HX4.out] at hx
            cases hx
            exact HG.out rfl
           ·exact hgood j x (by omega) hx
          case measure => simp [intOf]; omega
       ·have hkn : ¬ ((n3 : Int) < (h.pos.length : Int) + (h.neg.length : Int)) := by omega
        have HGS : Hid (∀ x ∈ h.pos ++ h.neg, GoodS x) := fun x hx => by
         obtain ⟨j, hj, rfl⟩ := List.getElem_of_mem hx
         exact hgood j _ (by rw [List.length_append] at hj; omega) (List.getElem?_eq_getElem hj)
        go_upto_region 31 with fail
        have hq7 := keep13 hbel6 hqn6 HQ6.out
        have hbw6 := hbw.trans (hbel6.mono hbw.size)
        obtain ⟨C344t, hC344t⟩ : ∃ B : Bool, RowKit.Hid (B = (true && (okA == true))) := ⟨_, rfl⟩
        obtain ⟨B345t, hB345t⟩ : ∃ B : Bool, RowKit.Hid (B = ((okA) && (okB))) := ⟨_, rfl⟩
        obtain ⟨C347t, hC347t⟩ : ∃ B : Bool, RowKit.Hid (B = (true && (B345t == true))) := ⟨_, rfl⟩
        obtain ⟨B348t, hB348t⟩ : ∃ B : Bool, RowKit.Hid (B = (!(cus))) := ⟨_, rfl⟩
        obtain ⟨C350t, hC350t⟩ : ∃ B : Bool, RowKit.Hid (B = (C347t && (B348t == false))) := ⟨_, rfl⟩
        obtain ⟨B353t, hB353t⟩ : ∃ B : Bool, RowKit.Hid (B = (((((h.neg.length : Int) : Int)) == ((0 : Int))))) := ⟨_, rfl⟩
        obtain ⟨C355t, hC355t⟩ : ∃ B : Bool, RowKit.Hid (B = (C350t && (B353t == true))) := ⟨_, rfl⟩
        obtain ⟨B357t, hB357t⟩ : ∃ B : Bool, RowKit.Hid (B = (((((h.zc : Int) : Int)) == ((0 : Int))))) := ⟨_, rfl⟩
        obtain ⟨B358t, hB358t⟩ : ∃ B : Bool, RowKit.Hid (B = ((B353t) && (B357t))) := ⟨_, rfl⟩
        obtain ⟨C360t, hC360t⟩ : ∃ B : Bool, RowKit.Hid (B = (C350t && (B358t == true))) := ⟨_, rfl⟩
        obtain ⟨B362t, hB362t⟩ : ∃ B : Bool, RowKit.Hid (B = (((((h.thr : Int) : Int)) == ((0 : Int))))) := ⟨_, rfl⟩
        obtain ⟨B363t, hB363t⟩ : ∃ B : Bool, RowKit.Hid (B = ((B358t) && (B362t))) := ⟨_, rfl⟩
        obtain ⟨B364t, hB364t⟩ : ∃ B : Bool, RowKit.Hid (B = ((B348t) || (B363t))) := ⟨_, rfl⟩
        obtain ⟨B365t, hB365t⟩ : ∃ B : Bool, RowKit.Hid (B = ((B345t) && (B364t))) := ⟨_, rfl⟩
        obtain ⟨Ft, hFt⟩ : ∃ F : Tmp → Value → Prop, F = (fun s zz => match s with
          | 342 => zz = .bool okA
          | 343 => zz = .bool okA
          | 344 => zz = if C344t = true then .bool okB else undef
          | 345 => zz = .bool B345t
          | 346 => zz = .bool B345t
          | 347 => zz = if C347t = true then .bool cus else undef
          | 348 => zz = if C347t = true then .bool B348t else undef
          | 349 => zz = if C347t = true then .bool B348t else undef
          | 350 => zz = if C350t = true then .pointer (some ⟨w.heap.size, 7, none⟩) else undef
          | 351 => zz = if C350t = true then .slice a2 h.neg.length c2 else undef
          | 352 => zz = if C350t = true then .int .i64 ((h.neg.length : Int)) else undef
          | 353 => zz = if C350t = true then .bool B353t else undef
          | 354 => zz = if C350t = true then .bool B353t else undef
          | 355 => zz = if C355t = true then .pointer (some ⟨w.heap.size, 4, none⟩) else undef
          | 356 => zz = if C355t = true then .int .u64 ((h.zc : Int)) else undef
          | 357 => zz = if C355t = true then .bool B357t else undef
          | 358 => zz = if C350t = true then .bool B358t else undef
          | 359 => zz = if C350t = true then .bool B358t else undef
          | 360 => zz = if C360t = true then .pointer (some ⟨w.heap.size, 2, none⟩) else undef
          | 361 => zz = if C360t = true then .int .u64 ((h.thr : Int)) else undef
          | 362 => zz = if C360t = true then .bool B362t else undef
          | 363 => zz = if C350t = true then .bool B363t else undef
          | 364 => zz = if C347t = true then .bool B364t else undef
          | 365 => zz = .bool B365t
          | 4 => zz = .bool B365t
          | _ => True) := ⟨_, rfl⟩
        refine Rg.region_pure2 Ft [342, 343, 344, 345, 346, 347, 348, 349, 350, 351, 352, 353, 354, 355, 356, 357, 358, 359, 360, 361, 362, 363, 364, 365, 4] (fun ut => ⟨#[.agg #[.int .u8 h.hint, .int .i32 h.schema, .int .u64 h.thr, .int .u64 h.sum, .int .u64 h.zc, .int .u64 h.cnt, .slice a1 h.pos.length c1, .slice a2 h.neg.length c2, .slice a3 h.ups.length c3, .slice a4 h.downs.length c4, .slice a5 h.fups.length c5, .slice a6 h.fdowns.length c6, .slice a7 h.cus.length c7], .bool fl, .pointer (some ⟨w.heap.size, 0, none⟩), undef, ut 4, .bool cus, .slice ax lA.length cx, .bool okA, .slice ay lB.length cy, .bool okB, .slice a4' (lA.length + lB.length) c4', .int .i64 most, .int .i64 k, .int .i64 n2, .int .i64 n3, u15, u16, u17, u18, u19, u20, u21, u22, u23, u24, u25, u26, u27, u28, u29, u30, u31, u32, u33, u34, u35, u36, u37, u38, u39, u40, u41, u42, u43, u44, u45, u46, u47, u48, u49, u50, u51, u52, u53, u54, u55, u56, u57, u58, u59, u60, u61, u62, u63, u64, u65, u66, u67, u68, u69, u70, u71, u72, u73, u74, u75, u76, u77, u78, u79, u80, u81, u82, u83, u84, u85, u86, u87, u88, u89, u90, u91, u92, u93, u94, u95, u96, u97, u98, u99, u100, u101, u102, u103, u104, u105, u106, u107, u108, u109, u110, u111, u112, u113, u114, u115, u116, u117, u118, u119, u120, u121, u122, u123, u124, u125, u126, u127, u128, u129, u130, u131, u132, u133, u134, u135, u136, u137, u138, u139, u140, u141, u142, u143, u144, u145, u146, u147, u148, u149, u150, u151, u152, u153, u154, u155, u156, u157, u158, u159, u160, u161, u162, u163, u164, u165, u166, u167, u168, u169, u170, u171, u172, u173, u174, u175, u176, u177, u178, u179, u180, .int .i64 k, .slice a4' (lA.length + lB.length) c4', .int .i64 ((lA.length : Int) + (lB.length : Int)), .bool false, u185, u186, u187, u188, u189, u190, u191, u192, u193, u194, u195, u196, u197, u198, u199, u200, u201, u202, u203, u204, u205, u206, u207, u208, u209, u210, u211, u212, u213, u214, u215, u216, u217, u218, u219, u220, u221, u222, u223, u224, u225, u226, u227, u228, u229, u230, u231, u232, u233, u234, u235, u236, u237, u238, u239, u240, u241, u242, u243, u244, u245, u246, u247, u248, u249, .int .i64 n2, .pointer (some ⟨w.heap.size, 12, none⟩), .slice a7 h.cus.length c7, .int .i64 (h.cus.length : Int), .bool false, u255, u256, u257, u258, u259, u260, u261, u262, u263, u264, u265, u266, u267, u268, u269, u270, u271, u272, u273, u274, u275, u276, u277, u278, u279, u280, u281, u282, u283, u284, u285, u286, u287, u288, u289, u290, u291, u292, .int .i64 n3, .pointer (some ⟨w.heap.size, 6, none⟩), .slice a1 h.pos.length c1, .int .i64 h.pos.length, .pointer (some ⟨w.heap.size, 7, none⟩), .slice a2 h.neg.length c2, .int .i64 h.neg.length, .int .i64 ((h.pos.length : Int) + (h.neg.length : Int)), .bool false, u302, u303, u304, u305, u306, u307, u308, u309, u310, u311, u312, u313, u314, u315, u316, u317, u318, u319, u320, u321, u322, u323, u324, u325, u326, u327, u328, u329, u330, u331, u332, u333, u334, u335, u336, u337, u338, u339, u340, u341, ut 342, ut 343, ut 344, ut 345, ut 346, ut 347, ut 348, ut 349, ut 350, ut 351, ut 352, ut 353, ut 354, ut 355, ut 356, ut 357, ut 358, ut 359, ut 360, ut 361, ut 362, ut 363, ut 364, ut 365], []⟩) (fun _ => by as_aux_lemma => kernel_rfl) (by as_aux_lemma => kernel_rfl) (by as_aux_lemma => kernel_rfl) (by as_aux_lemma => kernel_rfl) (by as_aux_lemma => kernel_rfl) ?stt ?_
        case stt =>
         refine ⟨?_, ?_, ?_, ?_, ?_, ?_, ?_, ?_, ?_, ?_, ?_, ?_, ?_, ?_, ?_, ?_, ?_, ?_, ?_, ?_, ?_, ?_, ?_, ?_, ?_, trivial⟩
         skip
         ·as_aux_lemma =>
          refine Rg.stepR_free (.bool okA) (by rfl) (fun a hr => ?_) (by rw [hFt]; rfl)
          have z7 := Rg.read_old hr 7 (by kernel_rfl) (by kernel_rfl); have r7 : a.eval (.tmp 7) = .bool okA := z7; clear z7; generalize a.eval = ρ at *; clear hr; go_simp
         ·as_aux_lemma =>
          refine Rg.stepR_free (.bool okA) (by rfl) (fun a hr => ?_) (by rw [hFt]; rfl)
          have z342 := Rg.read_new hr 342 (by kernel_rfl) (by kernel_rfl); rw [hFt] at z342; have r342 : a.eval (.tmp 342) = .bool okA := z342; clear z342; generalize a.eval = ρ at *; clear hr; go_simp
         ·as_aux_lemma =>
          have hC := hC344t.out
          refine Rg.stepR_guarded (.bool okB) true okA 1 true 343 (by rfl) (by kernel_rfl) (by kernel_rfl) (by kernel_rfl) (fun x hx => by rw [hFt] at hx; exact hx) (fun hc a hr => ?_) (fun hc => ?_) (fun hc => ?_)
          ·have z9 := Rg.read_old hr 9 (by kernel_rfl) (by kernel_rfl); have r9 : a.eval (.tmp 9) = .bool okB := z9; clear z9; rw [← hC] at hc; clear hC; generalize a.eval = ρ at *; clear hr; go_simp
          ·rw [← hC] at hc; rw [hFt]; show _ = ite _ _ _; rw [if_pos hc]
          ·rw [← hC] at hc; rw [hFt]; show _ = ite _ _ _; rw [if_neg (by rw [hc]; decide)]
         ·as_aux_lemma =>
          refine Rg.stepR_free (.bool B345t) (by rfl) (fun a hr => ?_) (by rw [hFt]; rfl)
          have z343 := Rg.read_new hr 343 (by kernel_rfl) (by kernel_rfl); rw [hFt] at z343; have r343 : a.eval (.tmp 343) = .bool okA := z343; clear z343; have z344 := Rg.read_new hr 344 (by kernel_rfl) (by kernel_rfl); rw [hFt] at z344; have r344 : a.eval (.tmp 344) = if C344t = true then .bool okB else undef := z344; clear z344; have rc : ∀ v, a.eval (.const v) = v := fun _ => rfl; rw [show B345t = _ from hB345t.out]; have e344 := hC344t.out; clear hr; generalize a.eval = ρ at *; cases okA <;> simp [e344] at r344 <;> (simp [r343, r344, rc, go_sem, execOp])
         ·as_aux_lemma =>
          refine Rg.stepR_free (.bool B345t) (by rfl) (fun a hr => ?_) (by rw [hFt]; rfl)
          have z345 := Rg.read_new hr 345 (by kernel_rfl) (by kernel_rfl); rw [hFt] at z345; have r345 : a.eval (.tmp 345) = .bool B345t := z345; clear z345; generalize a.eval = ρ at *; clear hr; go_simp
         ·as_aux_lemma =>
          have hC := hC347t.out
          refine Rg.stepR_guarded (.bool cus) true B345t 4 true 346 (by rfl) (by kernel_rfl) (by kernel_rfl) (by kernel_rfl) (fun x hx => by rw [hFt] at hx; exact hx) (fun hc a hr => ?_) (fun hc => ?_) (fun hc => ?_)
          ·have z5 := Rg.read_old hr 5 (by kernel_rfl) (by kernel_rfl); have r5 : a.eval (.tmp 5) = .bool cus := z5; clear z5; rw [← hC] at hc; clear hC; generalize a.eval = ρ at *; clear hr; go_simp
          ·rw [← hC] at hc; rw [hFt]; show _ = ite _ _ _; rw [if_pos hc]
          ·rw [← hC] at hc; rw [hFt]; show _ = ite _ _ _; rw [if_neg (by rw [hc]; decide)]
         ·as_aux_lemma =>
          have hC := hC347t.out
          refine Rg.stepR_guarded (.bool B348t) true B345t 4 true 346 (by rfl) (by kernel_rfl) (by kernel_rfl) (by kernel_rfl) (fun x hx => by rw [hFt] at hx; exact hx) (fun hc a hr => ?_) (fun hc => ?_) (fun hc => ?_)
          ·have z347 := Rg.read_new hr 347 (by kernel_rfl) (by kernel_rfl); rw [hFt] at z347; have r347 : a.eval (.tmp 347) = if C347t = true then .bool cus else undef := z347; clear z347; rw [← hC] at hc; clear hC; rw [if_pos hc] at r347; rw [show B348t = _ from hB348t.out]; generalize a.eval = ρ at *; clear hr; go_simp
          ·rw [← hC] at hc; rw [hFt]; show _ = ite _ _ _; rw [if_pos hc]
          ·rw [← hC] at hc; rw [hFt]; show _ = ite _ _ _; rw [if_neg (by rw [hc]; decide)]
         ·as_aux_lemma =>
          have hC := hC347t.out
          refine Rg.stepR_guarded (.bool B348t) true B345t 4 true 346 (by rfl) (by kernel_rfl) (by kernel_rfl) (by kernel_rfl) (fun x hx => by rw [hFt] at hx; exact hx) (fun hc a hr => ?_) (fun hc => ?_) (fun hc => ?_)
          ·have z348 := Rg.read_new hr 348 (by kernel_rfl) (by kernel_rfl); rw [hFt] at z348; have r348 : a.eval (.tmp 348) = if C347t = true then .bool B348t else undef := z348; clear z348; rw [← hC] at hc; clear hC; rw [if_pos hc] at r348; generalize a.eval = ρ at *; clear hr; go_simp
          ·rw [← hC] at hc; rw [hFt]; show _ = ite _ _ _; rw [if_pos hc]
          ·rw [← hC] at hc; rw [hFt]; show _ = ite _ _ _; rw [if_neg (by rw [hc]; decide)]
         ·as_aux_lemma =>
          have hC := hC350t.out
          refine Rg.stepR_guarded (.pointer (some ⟨w.heap.size, 7, none⟩)) C347t B348t 7 false 349 (by rfl) (by kernel_rfl) (by kernel_rfl) (by kernel_rfl) (fun x hx => by rw [hFt] at hx; exact hx) (fun hc a hr => ?_) (fun hc => ?_) (fun hc => ?_)
          ·have z2 := Rg.read_old hr 2 (by kernel_rfl) (by kernel_rfl); have r2 : a.eval (.tmp 2) = .pointer (some ⟨w.heap.size, 0, none⟩) := z2; clear z2; rw [← hC] at hc; clear hC; generalize a.eval = ρ at *; clear hr; go_simp
          ·rw [← hC] at hc; rw [hFt]; show _ = ite _ _ _; rw [if_pos hc]
          ·rw [← hC] at hc; rw [hFt]; show _ = ite _ _ _; rw [if_neg (by rw [hc]; decide)]
         ·as_aux_lemma =>
          have hC := hC350t.out
          refine Rg.stepR_guarded (.slice a2 h.neg.length c2) C347t B348t 7 false 349 (by rfl) (by kernel_rfl) (by kernel_rfl) (by kernel_rfl) (fun x hx => by rw [hFt] at hx; exact hx) (fun hc a hr => ?_) (fun hc => ?_) (fun hc => ?_)
          ·have z350 := Rg.read_new hr 350 (by kernel_rfl) (by kernel_rfl); rw [hFt] at z350; have r350 : a.eval (.tmp 350) = if C350t = true then .pointer (some ⟨w.heap.size, 7, none⟩) else undef := z350; clear z350; rw [← hC] at hc; clear hC; rw [if_pos hc] at r350; generalize a.eval = ρ at *; clear hr; go_simp
          ·rw [← hC] at hc; rw [hFt]; show _ = ite _ _ _; rw [if_pos hc]
          ·rw [← hC] at hc; rw [hFt]; show _ = ite _ _ _; rw [if_neg (by rw [hc]; decide)]
         ·as_aux_lemma =>
          have hC := hC350t.out
          refine Rg.stepR_guarded (.int .i64 ((h.neg.length : Int))) C347t B348t 7 false 349 (by rfl) (by kernel_rfl) (by kernel_rfl) (by kernel_rfl) (fun x hx => by rw [hFt] at hx; exact hx) (fun hc a hr => ?_) (fun hc => ?_) (fun hc => ?_)
          ·have z351 := Rg.read_new hr 351 (by kernel_rfl) (by kernel_rfl); rw [hFt] at z351; have r351 : a.eval (.tmp 351) = if C350t = true then .slice a2 h.neg.length c2 else undef := z351; clear z351; rw [← hC] at hc; clear hC; rw [if_pos hc] at r351; generalize a.eval = ρ at *; clear hr; go_simp
          ·rw [← hC] at hc; rw [hFt]; show _ = ite _ _ _; rw [if_pos hc]
          ·rw [← hC] at hc; rw [hFt]; show _ = ite _ _ _; rw [if_neg (by rw [hc]; decide)]
         ·as_aux_lemma =>
          have hC := hC350t.out
          refine Rg.stepR_guarded (.bool B353t) C347t B348t 7 false 349 (by rfl) (by kernel_rfl) (by kernel_rfl) (by kernel_rfl) (fun x hx => by rw [hFt] at hx; exact hx) (fun hc a hr => ?_) (fun hc => ?_) (fun hc => ?_)
          ·have z352 := Rg.read_new hr 352 (by kernel_rfl) (by kernel_rfl); rw [hFt] at z352; have r352 : a.eval (.tmp 352) = if C350t = true then .int .i64 ((h.neg.length : Int)) else undef := z352; clear z352; rw [← hC] at hc; clear hC; rw [if_pos hc] at r352; have rc : ∀ v, a.eval (.const v) = v := fun _ => rfl; rw [show B353t = _ from hB353t.out]; generalize a.eval = ρ at *; clear hr; go_simp
          ·rw [← hC] at hc; rw [hFt]; show _ = ite _ _ _; rw [if_pos hc]
          ·rw [← hC] at hc; rw [hFt]; show _ = ite _ _ _; rw [if_neg (by rw [hc]; decide)]
         ·as_aux_lemma =>
          have hC := hC350t.out
          refine Rg.stepR_guarded (.bool B353t) C347t B348t 7 false 349 (by rfl) (by kernel_rfl) (by kernel_rfl) (by kernel_rfl) (fun x hx => by rw [hFt] at hx; exact hx) (fun hc a hr => ?_) (fun hc => ?_) (fun hc => ?_)
          ·have z353 := Rg.read_new hr 353 (by kernel_rfl) (by kernel_rfl); rw [hFt] at z353; have r353 : a.eval (.tmp 353) = if C350t = true then .bool B353t else undef := z353; clear z353; rw [← hC] at hc; clear hC; rw [if_pos hc] at r353; generalize a.eval = ρ at *; clear hr; go_simp
          ·rw [← hC] at hc; rw [hFt]; show _ = ite _ _ _; rw [if_pos hc]
          ·rw [← hC] at hc; rw [hFt]; show _ = ite _ _ _; rw [if_neg (by rw [hc]; decide)]
         ·as_aux_lemma =>
          have hC := hC355t.out
          refine Rg.stepR_guarded (.pointer (some ⟨w.heap.size, 4, none⟩)) C350t B353t 12 true 354 (by rfl) (by kernel_rfl) (by kernel_rfl) (by kernel_rfl) (fun x hx => by rw [hFt] at hx; exact hx) (fun hc a hr => ?_) (fun hc => ?_) (fun hc => ?_)
          ·have z2 := Rg.read_old hr 2 (by kernel_rfl) (by kernel_rfl); have r2 : a.eval (.tmp 2) = .pointer (some ⟨w.heap.size, 0, none⟩) := z2; clear z2; rw [← hC] at hc; clear hC; generalize a.eval = ρ at *; clear hr; go_simp
          ·rw [← hC] at hc; rw [hFt]; show _ = ite _ _ _; rw [if_pos hc]
          ·rw [← hC] at hc; rw [hFt]; show _ = ite _ _ _; rw [if_neg (by rw [hc]; decide)]
         ·as_aux_lemma =>
          have hC := hC355t.out
          refine Rg.stepR_guarded (.int .u64 ((h.zc : Int))) C350t B353t 12 true 354 (by rfl) (by kernel_rfl) (by kernel_rfl) (by kernel_rfl) (fun x hx => by rw [hFt] at hx; exact hx) (fun hc a hr => ?_) (fun hc => ?_) (fun hc => ?_)
          ·have z355 := Rg.read_new hr 355 (by kernel_rfl) (by kernel_rfl); rw [hFt] at z355; have r355 : a.eval (.tmp 355) = if C355t = true then .pointer (some ⟨w.heap.size, 4, none⟩) else undef := z355; clear z355; rw [← hC] at hc; clear hC; rw [if_pos hc] at r355; generalize a.eval = ρ at *; clear hr; go_simp
          ·rw [← hC] at hc; rw [hFt]; show _ = ite _ _ _; rw [if_pos hc]
          ·rw [← hC] at hc; rw [hFt]; show _ = ite _ _ _; rw [if_neg (by rw [hc]; decide)]
         ·as_aux_lemma =>
          have hC := hC355t.out
          refine Rg.stepR_guarded (.bool B357t) C350t B353t 12 true 354 (by rfl) (by kernel_rfl) (by kernel_rfl) (by kernel_rfl) (fun x hx => by rw [hFt] at hx; exact hx) (fun hc a hr => ?_) (fun hc => ?_) (fun hc => ?_)
          ·have z356 := Rg.read_new hr 356 (by kernel_rfl) (by kernel_rfl); rw [hFt] at z356; have r356 : a.eval (.tmp 356) = if C355t = true then .int .u64 ((h.zc : Int)) else undef := z356; clear z356; rw [← hC] at hc; clear hC; rw [if_pos hc] at r356; have rc : ∀ v, a.eval (.const v) = v := fun _ => rfl; rw [show B357t = _ from hB357t.out]; generalize a.eval = ρ at *; clear hr; go_simp
          ·rw [← hC] at hc; rw [hFt]; show _ = ite _ _ _; rw [if_pos hc]
          ·rw [← hC] at hc; rw [hFt]; show _ = ite _ _ _; rw [if_neg (by rw [hc]; decide)]
         ·as_aux_lemma =>
          have hC := hC350t.out
          refine Rg.stepR_guarded (.bool B358t) C347t B348t 7 false 349 (by rfl) (by kernel_rfl) (by kernel_rfl) (by kernel_rfl) (fun x hx => by rw [hFt] at hx; exact hx) (fun hc a hr => ?_) (fun hc => ?_) (fun hc => ?_)
          ·have z354 := Rg.read_new hr 354 (by kernel_rfl) (by kernel_rfl); rw [hFt] at z354; have r354 : a.eval (.tmp 354) = if C350t = true then .bool B353t else undef := z354; clear z354; have z357 := Rg.read_new hr 357 (by kernel_rfl) (by kernel_rfl); rw [hFt] at z357; have r357 : a.eval (.tmp 357) = if C355t = true then .bool B357t else undef := z357; clear z357; rw [← hC] at hc; clear hC; rw [if_pos hc] at r354; have rc : ∀ v, a.eval (.const v) = v := fun _ => rfl; rw [show B358t = _ from hB358t.out]; have e357 := hC355t.out; rw [hc] at e357; clear hr; generalize a.eval = ρ at *; cases B353t <;> simp [e357] at r357 <;> (simp [r354, r357, rc, go_sem, execOp])
          ·rw [← hC] at hc; rw [hFt]; show _ = ite _ _ _; rw [if_pos hc]
          ·rw [← hC] at hc; rw [hFt]; show _ = ite _ _ _; rw [if_neg (by rw [hc]; decide)]
         ·as_aux_lemma =>
          have hC := hC350t.out
          refine Rg.stepR_guarded (.bool B358t) C347t B348t 7 false 349 (by rfl) (by kernel_rfl) (by kernel_rfl) (by kernel_rfl) (fun x hx => by rw [hFt] at hx; exact hx) (fun hc a hr => ?_) (fun hc => ?_) (fun hc => ?_)
          ·have z358 := Rg.read_new hr 358 (by kernel_rfl) (by kernel_rfl); rw [hFt] at z358; have r358 : a.eval (.tmp 358) = if C350t = true then .bool B358t else undef := z358; clear z358; rw [← hC] at hc; clear hC; rw [if_pos hc] at r358; generalize a.eval = ρ at *; clear hr; go_simp
          ·rw [← hC] at hc; rw [hFt]; show _ = ite _ _ _; rw [if_pos hc]
          ·rw [← hC] at hc; rw [hFt]; show _ = ite _ _ _; rw [if_neg (by rw [hc]; decide)]
         ·as_aux_lemma =>
          have hC := hC360t.out
          refine Rg.stepR_guarded (.pointer (some ⟨w.heap.size, 2, none⟩)) C350t B358t 17 true 359 (by rfl) (by kernel_rfl) (by kernel_rfl) (by kernel_rfl) (fun x hx => by rw [hFt] at hx; exact hx) (fun hc a hr => ?_) (fun hc => ?_) (fun hc => ?_)
          ·have z2 := Rg.read_old hr 2 (by kernel_rfl) (by kernel_rfl); have r2 : a.eval (.tmp 2) = .pointer (some ⟨w.heap.size, 0, none⟩) := z2; clear z2; rw [← hC] at hc; clear hC; generalize a.eval = ρ at *; clear hr; go_simp
          ·rw [← hC] at hc; rw [hFt]; show _ = ite _ _ _; rw [if_pos hc]
          ·rw [← hC] at hc; rw [hFt]; show _ = ite _ _ _; rw [if_neg (by rw [hc]; decide)]
         ·as_aux_lemma =>
          have hC := hC360t.out
          refine Rg.stepR_guarded (.int .u64 ((h.thr : Int))) C350t B358t 17 true 359 (by rfl) (by kernel_rfl) (by kernel_rfl) (by kernel_rfl) (fun x hx => by rw [hFt] at hx; exact hx) (fun hc a hr => ?_) (fun hc => ?_) (fun hc => ?_)
          ·have z360 := Rg.read_new hr 360 (by kernel_rfl) (by kernel_rfl); rw [hFt] at z360; have r360 : a.eval (.tmp 360) = if C360t = true then .pointer (some ⟨w.heap.size, 2, none⟩) else undef := z360; clear z360; rw [← hC] at hc; clear hC; rw [if_pos hc] at r360; generalize a.eval = ρ at *; clear hr; go_simp
          ·rw [← hC] at hc; rw [hFt]; show _ = ite _ _ _; rw [if_pos hc]
          ·rw [← hC] at hc; rw [hFt]; show _ = ite _ _ _; rw [if_neg (by rw [hc]; decide)]
         ·as_aux_lemma =>
          have hC := hC360t.out
          refine Rg.stepR_guarded (.bool B362t) C350t B358t 17 true 359 (by rfl) (by kernel_rfl) (by kernel_rfl) (by kernel_rfl) (fun x hx => by rw [hFt] at hx; exact hx) (fun hc a hr => ?_) (fun hc => ?_) (fun hc => ?_)
          ·have z361 := Rg.read_new hr 361 (by kernel_rfl) (by kernel_rfl); rw [hFt] at z361; have r361 : a.eval (.tmp 361) = if C360t = true then .int .u64 ((h.thr : Int)) else undef := z361; clear z361; rw [← hC] at hc; clear hC; rw [if_pos hc] at r361; have rc : ∀ v, a.eval (.const v) = v := fun _ => rfl; rw [show B362t = _ from hB362t.out]; generalize a.eval = ρ at *; clear hr; go_simp
          ·rw [← hC] at hc; rw [hFt]; show _ = ite _ _ _; rw [if_pos hc]
          ·rw [← hC] at hc; rw [hFt]; show _ = ite _ _ _; rw [if_neg (by rw [hc]; decide)]
         ·as_aux_lemma =>
          have hC := hC350t.out
          refine Rg.stepR_guarded (.bool B363t) C347t B348t 7 false 349 (by rfl) (by kernel_rfl) (by kernel_rfl) (by kernel_rfl) (fun x hx => by rw [hFt] at hx; exact hx) (fun hc a hr => ?_) (fun hc => ?_) (fun hc => ?_)
          ·have z359 := Rg.read_new hr 359 (by kernel_rfl) (by kernel_rfl); rw [hFt] at z359; have r359 : a.eval (.tmp 359) = if C350t = true then .bool B358t else undef := z359; clear z359; have z362 := Rg.read_new hr 362 (by kernel_rfl) (by kernel_rfl); rw [hFt] at z362; have r362 : a.eval (.tmp 362) = if C360t = true then .bool B362t else undef := z362; clear z362; rw [← hC] at hc; clear hC; rw [if_pos hc] at r359; have rc : ∀ v, a.eval (.const v) = v := fun _ => rfl; rw [show B363t = _ from hB363t.out]; have e362 := hC360t.out; rw [hc] at e362; clear hr; generalize a.eval = ρ at *; cases B358t <;> simp [e362] at r362 <;> (simp [r359, r362, rc, go_sem, execOp])
          ·rw [← hC] at hc; rw [hFt]; show _ = ite _ _ _; rw [if_pos hc]
          ·rw [← hC] at hc; rw [hFt]; show _ = ite _ _ _; rw [if_neg (by rw [hc]; decide)]
         ·as_aux_lemma =>
          have hC := hC347t.out
          refine Rg.stepR_guarded (.bool B364t) true B345t 4 true 346 (by rfl) (by kernel_rfl) (by kernel_rfl) (by kernel_rfl) (fun x hx => by rw [hFt] at hx; exact hx) (fun hc a hr => ?_) (fun hc => ?_) (fun hc => ?_)
          ·have z349 := Rg.read_new hr 349 (by kernel_rfl) (by kernel_rfl); rw [hFt] at z349; have r349 : a.eval (.tmp 349) = if C347t = true then .bool B348t else undef := z349; clear z349; have z363 := Rg.read_new hr 363 (by kernel_rfl) (by kernel_rfl); rw [hFt] at z363; have r363 : a.eval (.tmp 363) = if C350t = true then .bool B363t else undef := z363; clear z363; rw [← hC] at hc; clear hC; rw [if_pos hc] at r349; have rc : ∀ v, a.eval (.const v) = v := fun _ => rfl; rw [show B364t = _ from hB364t.out]; have e363 := hC350t.out; rw [hc] at e363; clear hr; generalize a.eval = ρ at *; cases B348t <;> simp [e363] at r363 <;> (simp [r349, r363, rc, go_sem, execOp])
          ·rw [← hC] at hc; rw [hFt]; show _ = ite _ _ _; rw [if_pos hc]
          ·rw [← hC] at hc; rw [hFt]; show _ = ite _ _ _; rw [if_neg (by rw [hc]; decide)]
         ·as_aux_lemma =>
          refine Rg.stepR_free (.bool B365t) (by rfl) (fun a hr => ?_) (by rw [hFt]; rfl)
          have z346 := Rg.read_new hr 346 (by kernel_rfl) (by kernel_rfl); rw [hFt] at z346; have r346 : a.eval (.tmp 346) = .bool B345t := z346; clear z346; have z364 := Rg.read_new hr 364 (by kernel_rfl) (by kernel_rfl); rw [hFt] at z364; have r364 : a.eval (.tmp 364) = if C347t = true then .bool B364t else undef := z364; clear z364; have rc : ∀ v, a.eval (.const v) = v := fun _ => rfl; rw [show B365t = _ from hB365t.out]; have e364 := hC347t.out; clear hr; generalize a.eval = ρ at *; cases B345t <;> simp [e364] at r364 <;> (simp [r346, r364, rc, go_sem, execOp])
         ·as_aux_lemma =>
          refine Rg.stepR_free (.bool B365t) (by rfl) (fun a hr => ?_) (by rw [hFt]; rfl)
          have z365 := Rg.read_new hr 365 (by kernel_rfl) (by kernel_rfl); rw [hFt] at z365; have r365 : a.eval (.tmp 365) = .bool B365t := z365; clear z365; generalize a.eval = ρ at *; clear hr; go_simp
        intro ut hut
        have e4 : ut 4 = .bool B365t := by have z := hut 4 (by rfl); rw [hFt] at z; exact z
        clear hut
        simp only [e4]
        clear e4
        have HT : Hid (B365t = true → (okA = true ∧ okB = true) ∧ (cus = true → h.neg.length = 0 ∧ (h.zc : Int) = 0 ∧ (h.thr : Int) = 0)) := fun hc => by
         have z := hB365t.out.symm.trans hc
         simp only [hB345t.out, hB348t.out, hB353t.out, hB357t.out, hB358t.out, hB362t.out, hB363t.out, hB364t.out, Bool.and_eq_true, Bool.or_eq_true, Bool.not_eq_true', beq_iff_eq] at z
         obtain ⟨z1, z2⟩ := z
         refine ⟨z1, fun hcc => ?_⟩
         rcases z2 with z2 | z2
         ·rw [hcc] at z2; cases z2
         ·exact ⟨by have := z2.1.1; omega, z2.1.2, z2.2⟩
        clear hFt hC344t hB345t hC347t hB348t hC350t hB353t hC355t hB357t hB358t hC360t hB362t hB363t hB364t hB365t
        go_wp2
        go_ret
        refine fitPost_of hbw6 fun hr => ?_
        obtain ⟨⟨hoa, hob⟩, hcu2⟩ := HT.out hr
        obtain ⟨fa1, fa2, fa3, fa4, fa5, fa6, fa7, fa8, fa9, fa10, fa11⟩ := FA.out
        exact ⟨fa1, fun hne => fa2 (by rw [← hcs]; simpa using hne), fa3, fa4, ⟨fa5, fa6, fa7, fa8, fa9, fa10, fa11⟩, FB.out.1, FB.out.2, by rw [HA.out]; exact hoa, by rw [HB.out]; exact hob, ⟨most, hm1, by rw [HA.out, HB.out, hcs]; exact HGA.out⟩, HGC.out, HGS.out, fun he => hcu2 (by rw [← hcs]; simpa using he)⟩
end Go.Proofs.YtbgkoapnejnfbaaDoor
