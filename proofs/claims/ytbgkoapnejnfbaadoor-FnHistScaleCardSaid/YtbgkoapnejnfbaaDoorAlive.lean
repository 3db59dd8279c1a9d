/-
  countAlive answers true.
-/
import Derived.Test.YtbgkoapnejnfbaaDoorHistValid
namespace Go.Proofs.YtbgkoapnejnfbaaDoor
set_option linter.unusedSimpArgs false
set_option linter.unusedVariables false
open Go.RowKit

def hist1 : Hist := { hint := 0, schema := 0, thr := 0, sum := 0, zc := 0, cnt := 2, pos := [(1, 1)], neg := [], ups := [2], downs := [], fups := [], fdowns := [], cus := [] }
def hist2 : Hist := { hint := 0, schema := 0, thr := 0, sum := 0, zc := 0, cnt := 2, pos := [], neg := [], ups := [], downs := [], fups := [], fdowns := [], cus := [] }
theorem valid1 : validH false hist1 = true := by decide +kernel
theorem valid2 : validH false hist2 = false := by decide +kernel
theorem fits1 : Fits hist1 := by constructor <;> decide
theorem fits2 : Fits hist2 := by constructor <;> decide
theorem wf1 : Wf hist1 := by constructor <;> simp [hist1]
theorem wf2 : Wf hist2 := by constructor <;> simp [hist2]

theorem histAt2 (w : World) (B : Nat) : HistAt w B (.slice none 0 0) (.slice none 0 0) (.slice none 0 0) (.slice none 0 0) (.slice none 0 0) (.slice none 0 0) (.slice none 0 0) hist2 :=
  ⟨Sl.nil _ _ _ _, Sl.nil _ _ _ _, Sl.nil _ _ _ _, Sl.nil _ _ _ _, Sl.nil _ _ _ _, Sl.nil _ _ _ _, Sl.nil _ _ _ _⟩

theorem histAt1 {w : World} {b c : Nat} {t1 t2 : TypeId} (hb : w.heap[b]? = some (.cells #[.int .i32 1, .int .u32 1] t1)) (hc : w.heap[c]? = some (.cells #[.int .i64 2] t2)) :
    HistAt w w.heap.size (.slice (some ⟨b, 0, none⟩) 1 1) (.slice none 0 0) (.slice (some ⟨c, 0, none⟩) 1 1) (.slice none 0 0) (.slice none 0 0) (.slice none 0 0) (.slice none 0 0) hist1 :=
  ⟨Pairs.own (base := 0) (e := t1) (n := 1) ⟨rfl, .inr ⟨b, 1, _, rfl, Nat.zero_le _, hb, Nat.le_refl _, by decide, rfl, rfl⟩⟩, Sl.nil _ _ _ _, Ints.own (base := 0) (e := t2) (n := 1) ⟨rfl, .inr ⟨c, 1, _, rfl, Nat.zero_le _, hc, Nat.le_refl _, by decide, rfl, rfl⟩⟩, Sl.nil _ _ _ _, Sl.nil _ _ _ _, Sl.nil _ _ _ _, Sl.nil _ _ _ _⟩

theorem blocks3 (w : World) (o1 o2 o3 : Obj) :
    (((w.alloc o1).alloc o2).alloc o3).heap[w.heap.size]? = some o1 ∧ (((w.alloc o1).alloc o2).alloc o3).heap[w.heap.size + 1]? = some o2 ∧ (((w.alloc o1).alloc o2).alloc o3).heap[w.heap.size + 1 + 1]? = some o3 ∧
    Below w.heap.size w (((w.alloc o1).alloc o2).alloc o3) ∧ (((w.alloc o1).alloc o2).alloc o3).heap.size = w.heap.size + 3 := by
  have h1 : ∀ o : Obj, (w.alloc o).heap.size = w.heap.size + 1 := fun o => by simp
  have h2 : ∀ o p : Obj, ((w.alloc o).alloc p).heap.size = w.heap.size + 1 + 1 := fun o p => by simp
  have b1 := ((Below.refl (w.heap.size + 1) (w.alloc o1)).alloc (by rw [h1]; omega) o2).alloc (by rw [h2]; omega) o3
  have b2 := (Below.refl (w.heap.size + 1 + 1) ((w.alloc o1).alloc o2)).alloc (by rw [h2]; omega) o3
  have n1 := heap_alloc_new w o1
  have n2 := heap_alloc_new (w.alloc o1) o2
  have n3 := heap_alloc_new ((w.alloc o1).alloc o2) o3
  rw [h1] at n2
  rw [h2] at n3
  exact ⟨(b1.block _ (by omega)).trans n1, (b2.block _ (by omega)).trans n2, n3, (((Below.refl w.heap.size w).alloc (Nat.le_refl _) _).alloc (by simp) _).alloc (by simp; omega) _, by simp⟩

set_option maxRecDepth 100000 in
set_option maxHeartbeats 4000000 in
theorem countAlive_any (w : World) (he : Errs w) : Calls Tryd.prog 11 #[] w fun e w' => e = .returned (.bool true) ∧ Below w.heap.size w w' := by
  go_enter Tryd.func11, Tryd.ntmps11
  go_wp2_with fail
  obtain ⟨n1, n2, _, hB, hs⟩ := blocks3 w (.cells #[.int .i32 1, .int .u32 1] 52) (.cells #[.int .i64 2] 2) (.cells #[.int .u8 0, .int .i32 0, .int .u64 0, .int .u64 0, .int .u64 0, .int .u64 2, .slice (some ⟨w.heap.size, 0, none⟩) 1 1, .slice none 0 0, .slice (some ⟨w.heap.size + 1, 0, none⟩) 1 1, .slice none 0 0, .slice none 0 0, .slice none 0 0, .slice none 0 0] 27)
  generalize ((w.alloc (.cells #[.int .i32 1, .int .u32 1] 52)).alloc _).alloc _ = W at *
  refine (histValid_any false _ _ _ _ _ _ _ hist1 W (histAt1 n1 n2) fits1 wf1 (he.below hB he.lt)).mono ?_
  rintro e w1 ⟨rfl, hb1⟩
  rw [valid1]
  have hB1 := hB.trans (hb1.mono hB.size)
  go_wp2_with fail
  refine (histValid_any false _ _ _ _ _ _ _ hist2 w1 (histAt2 _ _) fits2 wf2 (he.below hB1 he.lt)).mono ?_
  rintro e w2 ⟨rfl, hb2⟩
  rw [valid2]
  go_wp2_with fail
  go_ret
  exact ⟨rfl, hB1.trans (hb2.mono hB1.size)⟩
end Go.Proofs.YtbgkoapnejnfbaaDoor
