/-
  Spans and floats are copied into new memory.
-/
import Derived.Test.YtbgkoapnejnfbaaDoorRows
import Derived.Test.YtbgkoapnejnfbaaDoorLib
namespace Go.Proofs.YtbgkoapnejnfbaaDoor
set_option linter.unusedSimpArgs false
set_option linter.unusedVariables false
open Go.RowKit

theorem run94 (n : Int) (w : World) : (callFunc 88 #[.int .u64 n]).run Tryd.prog w = .ok (.value (.float .f64 n.toNat)) w :=
  run_callFunc_extern (e := Extern.MathFloatBits.float64frombits) Tryd.func88 (by kernel_rfl) (by kernel_rfl) (by kernel_rfl) (by kernel_rfl) _ w

theorem float_any (a : Nat) (w : World) :
    Calls Tryd.prog 47 #[.int .u64 a] w fun e w' => e = .returned (.float .f64 a) ∧ w = w' := by
  have hx := run94
  go_enter Tryd.func47, Tryd.ntmps47
  go_wp2
  go_ret
  exact ⟨rfl, rfl⟩

theorem infoSpan : (Tryd.prog.info? 84).map (fun i => (i.zero, i.size, i.bytes)) = some (some (.agg #[.int .i32 0, .int .u32 0]), 2, 8) := by kernel_rfl

set_option maxRecDepth 100000 in
set_option maxHeartbeats 1000000 in
theorem spans_any (v : Value) (l : List (Int × Int)) (B : Nat) (w : World) (h : Pairs w B .i32 .u32 v l) (hl : l.length ≤ 2147483647) :
    Calls Tryd.prog 79 #[v] w fun e w' => ∃ v', e = .returned v' ∧ w'.ownsRow w.heap.size 84 2 v' l.length (flat .i32 .u32 l) ∧ Below w.heap.size w w' ∧ (v' = .slice none 0 0 ↔ l = []) := by
  obtain ⟨i0, hi, hz0, hz1, hz2⟩ := info_parts infoSpan
  obtain ⟨ao, cap, rfl, h1, h2⟩ := h.form
  go_enter Tryd.func79, Tryd.ntmps79
  go_wp2
  go_loopw [3, 8] (fun v i wr => ∃ k : Nat, k ≤ l.length ∧ i = .int .i64 k ∧ wr.ownsRow w.heap.size 84 2 v k (flat .i32 .u32 (l.take k)) ∧ Below w.heap.size w wr ∧ (v = .slice none 0 0 ↔ k = 0)) (fun _ i _ => l.length - (intOf i).toNat)
  case atStart => exact ⟨0, Nat.zero_le _, rfl, World.ownsRow_nil _ _ _ _, Below.refl _ _, by simp⟩
  case round =>
    obtain ⟨k, hk, rfl, hown, hbel, hnil⟩ := hrel
    by_cases hlt : k < l.length
    · obtain ⟨b, off, rfl, hbB, hBw, hc⟩ := h.at_ (by omega)
      obtain ⟨c0, c1⟩ := hc k hlt
      have c0' := (hbel.cell (p := ⟨b, off + k * 2, none⟩) (show b < w.heap.size by omega)).trans c0
      have c1' := (hbel.cell (p := ⟨b, off + k * 2 + 1, none⟩) (show b < w.heap.size by omega)).trans c1
      clear c0 c1 hc
      generalize hx : l[k] = x at *
      obtain ⟨x0, x1⟩ := x
      have ht : l.take (k + 1) = l.take k ++ [(x0, x1)] := by rw [List.take_succ_eq_append_getElem hlt, hx]
      have hf : flat .i32 .u32 (l.take (k + 1)) = flat .i32 .u32 (l.take k) ++ [.int .i32 x0, .int .u32 x1] := by rw [ht, flat_append]; rfl
      have HT := Lib.hid hf
      clear ht hf hx h
      go_wp2_with (at_builtin; refine wpList_append_own _ rfl (.tmp 12) (.tmp 18) 85 rfl w.heap.size 84 i0 (.agg #[.int .i32 0, .int .u32 0]) 2 8 Tryd.underlying85 hi hz0 hz1 hz2 rfl (by decide) u3 k _ rfl ((hown.alloc _).alloc _) ⟨wr.heap.size + 1, 0, none⟩ 1 1 [.int .i32 x0, .int .u32 x1] rfl rfl (news_at (wr.alloc _) _ (by simp) _ _) (one2 _ _ _ _) (by unfold maxLen; omega) (by omega) (by have := hbel.size; simp; omega) ?_; intro v' w1 hown' hgrow hnil')
      have hb1 : Below w.heap.size w w1 := ((hbel.alloc hbel.size _).alloc (by have := hbel.size; simp; omega) _).grown hgrow (by have := hbel.size; simp; omega) (fun q hq => (hown.lt q hq).1)
      have hn1 : v' = .slice none 0 0 ↔ k + 1 = 0 := by rw [hnil']; simp
      rw [← HT.out] at hown'
      clear hgrow hnil' hown hbel hnil
      go_wp2
      go_roundw
      case rel => exact ⟨k + 1, by omega, by simp, hown', hb1, hn1⟩
      case measure => simp [intOf]; omega
    · have hkl : k = l.length := by omega
      subst hkl
      go_wp2
      go_ret
      exact ⟨_, rfl, by simpa using hown, hbel, by simpa using hnil⟩

theorem infoFloat : (Tryd.prog.info? 67).map (fun i => (i.zero, i.size, i.bytes)) = some (some (.float .f64 0), 1, 8) := by kernel_rfl
theorem infoInt : (Tryd.prog.info? 2).map (fun i => (i.zero, i.size, i.bytes)) = some (some (.int .i64 0), 1, 8) := by kernel_rfl

set_option maxRecDepth 100000 in
set_option maxHeartbeats 1000000 in
theorem floats_any (v : Value) (l : List Nat) (B : Nat) (w : World) (h : Ints w B .u64 v (l.map Int.ofNat)) (hl : l.length ≤ 2147483647) :
    Calls Tryd.prog 80 #[v] w fun e w' => ∃ v', e = .returned v' ∧ w'.ownsRow w.heap.size 67 1 v' l.length (l.map (Value.float .f64)) ∧ Below w.heap.size w w' ∧ (v' = .slice none 0 0 ↔ l = []) := by
  obtain ⟨i0, hi, hz0, hz1, hz2⟩ := info_parts infoFloat
  obtain ⟨ao, cap, rfl, h1, h2⟩ := h.form
  rw [List.length_map] at *
  go_enter Tryd.func80, Tryd.ntmps80
  go_wp2
  go_loopw [3, 8] (fun v i wr => ∃ k : Nat, k ≤ l.length ∧ i = .int .i64 k ∧ wr.ownsRow w.heap.size 67 1 v k ((l.take k).map (Value.float .f64)) ∧ Below w.heap.size w wr ∧ (v = .slice none 0 0 ↔ k = 0)) (fun _ i _ => l.length - (intOf i).toNat)
  case atStart => exact ⟨0, Nat.zero_le _, rfl, World.ownsRow_nil _ _ _ _, Below.refl _ _, by simp⟩
  case round =>
    obtain ⟨k, hk, rfl, hown, hbel, hnil⟩ := hrel
    by_cases hlt : k < l.length
    · obtain ⟨b, off, rfl, hbB, hBw, hc⟩ := h.at_ (by simp; omega)
      have c0 := hc k (by simpa using hlt)
      have c0' := (hbel.cell (p := ⟨b, off + k, none⟩) (show b < w.heap.size by omega)).trans c0
      rw [List.getElem_map] at c0'
      clear c0 hc
      generalize hx : l[k] = x at *
      have ht : l.take (k + 1) = l.take k ++ [x] := by rw [List.take_succ_eq_append_getElem hlt, hx]
      have hf : (l.take (k + 1)).map (Value.float .f64) = (l.take k).map (Value.float .f64) ++ [.float .f64 x] := by rw [ht, List.map_append]; rfl
      have HT := Lib.hid hf
      change _ = some (Value.int .u64 (x : Int)) at c0'
      clear ht hf hx h
      go_wp2_with (first | (go_at_call 47; refine (float_any x _).mono ?_; rintro e w' ⟨rfl, rfl⟩) | (at_builtin; refine wpList_append_own _ rfl (.tmp 12) (.tmp 15) 86 rfl w.heap.size 67 i0 (.float .f64 0) 1 8 Tryd.underlying86 hi hz0 hz1 hz2 rfl (by decide) u3 k _ rfl (hown.alloc _) ⟨wr.heap.size, 0, none⟩ 1 1 [.float .f64 x] rfl rfl (news_at wr _ (by simp) _ _) (onef _) (by unfold maxLen; omega) (by omega) (by have := hbel.size; simp; omega) ?_; intro v' w1 hown' hgrow hnil'))
      have hb1 : Below w.heap.size w w1 := (hbel.alloc hbel.size _).grown hgrow (by have := hbel.size; simp; omega) (fun q hq => (hown.lt q hq).1)
      have hn1 : v' = .slice none 0 0 ↔ k + 1 = 0 := by rw [hnil']; simp
      rw [← HT.out] at hown'
      clear hgrow hnil' hown hbel hnil
      go_wp2
      go_roundw
      case rel => exact ⟨k + 1, by omega, by simp, hown', hb1, hn1⟩
      case measure => simp [intOf]; omega
    · have hkl : k = l.length := by omega
      subst hkl
      go_wp2
      go_ret
      exact ⟨_, rfl, by simpa using hown, hbel, by simpa using hnil⟩
end Go.Proofs.YtbgkoapnejnfbaaDoor
