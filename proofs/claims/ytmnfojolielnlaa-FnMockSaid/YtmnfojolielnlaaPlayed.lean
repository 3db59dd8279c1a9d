/-
  impl.played over a mock iterator.
-/
import Derived.Test.YtmnfojolielnlaaApp
namespace Go.Proofs.Ytmnfojolielnlaa
set_option linter.unusedSimpArgs false
set_option linter.unusedVariables false
open Go.RowKit

theorem mnext_method (t : World) (g : Nat) : (method 191 58 (.pointer (some ⟨g, 0, none⟩)) "Next").run Try.prog t = .ok (44, .pointer (some ⟨g, 0, none⟩)) t := by kernel_rfl
theorem mat_method (t : World) (g : Nat) : (method 191 58 (.pointer (some ⟨g, 0, none⟩)) "At").run Try.prog t = .ok (39, .pointer (some ⟨g, 0, none⟩)) t := by kernel_rfl

theorem three_new (w : World) (o0 o1 o2 : Obj) : (((w.alloc o0).alloc o1).alloc o2).drew.heap[w.heap.size + 1 + 1]? = some o2 := by
  have h := heap_alloc_new ((w.alloc o0).alloc o1) o2
  have e : ((w.alloc o0).alloc o1).heap.size = w.heap.size + 1 + 1 := by simp
  rw [e] at h
  exact h
theorem own_three {w : World} {base size n : Nat} {e : TypeId} {v : Value} {xs : List Value} (h : w.ownsRow base e size v n xs) (o0 o1 o2 : Obj) : (((w.alloc o0).alloc o1).alloc o2).drew.ownsRow base e size v n xs :=
  own_heap rfl (own_alloc (own_alloc (own_alloc h o0) o1) o2)
theorem below_three {B : Nat} {w0 w : World} (h : Below B w0 w) (hB : B ≤ w.heap.size) (o0 o1 o2 : Obj) : Below B w0 (((w.alloc o0).alloc o1).alloc o2).drew :=
  (((h.alloc hB o0).alloc (by simp; omega) o1).alloc (by simp; omega) o2).drew
theorem size_three (w : World) (o0 o1 o2 : Obj) : (((w.alloc o0).alloc o1).alloc o2).drew.heap.size = w.heap.size + 3 := by simp

theorem next_facts {wr w1 : World} {o : Obj} {g k : Nat} {a b c : Value} {t : TypeId} (hgr : wr.heap[g]? = some (.cells #[a, b, c] t (0, 0))) (hw : w1 = (wr.alloc o).drew.setCell ⟨g, 2, none⟩ (.int .i64 ((k : Int) - 1 + 1))) :
    Below g wr w1 ∧ w1.heap.size = wr.heap.size + 1 ∧ w1.heap[g]? = some (.cells #[a, b, .int .i64 k] t (0, 0)) ∧ ∀ (base : Nat) (e : TypeId) (size : Nat) (v : Value) (n : Nat) (xs : List Value), wr.ownsRow base e size v n xs → t ≠ e → w1.ownsRow base e size v n xs := by
  subst hw
  have hlt : g < wr.heap.size := (Array.getElem?_eq_some_iff.1 hgr).1
  have h1 : (wr.alloc o).drew.heap[g]? = some (.cells #[a, b, c] t (0, 0)) := block_alloc hgr o
  refine ⟨(((Below.refl g wr).alloc (Nat.le_of_lt hlt) o).drew).setCell (show g ≤ g from Nat.le_refl _) _, by rw [size_set]; simp, ?_, fun base e size v n xs h ht => own_set (own_heap rfl (own_alloc h o)) h1 ht _⟩
  have h2 := heap_set (j := 2) h1 (.int .i64 ((k : Int) - 1 + 1))
  have e : (k : Int) - 1 + 1 = (k : Int) := by omega
  rw [e] at h2
  rw [e]
  exact h2

theorem at_facts {w1 : World} {g k p : Nat} {a b : Value} {t t2 : TypeId} {u0 u1 u2 : Value} {w2 : World} (h : w1.heap[g]? = some (.cells #[a, b, .int .i64 k] t (0, 0))) (hp : w1.heap.size = p) (hw : w2 = (w1.alloc (.cells #[u0, u1, u2] t2)).drew) :
    Below p w1 w2 ∧ w2.heap.size = p + 1 ∧ w2.heap[p]? = some (.cells #[u0, u1, u2] t2 (0, 0)) := by
  subst hw
  subst hp
  exact ⟨((Below.refl _ _).alloc (Nat.le_refl _) _).drew, by simp, heap_alloc_new w1 _⟩

theorem at_pre {w0 w1 : World} {g k b1 x1 b2 x2 : Nat} {a b v1 v2 : Value} {t : TypeId} (h : w1.heap[g]? = some (.cells #[a, b, .int .i64 k] t (0, 0))) (hb : Below g w0 w1) (hb1 : b1 < g) (hb2 : b2 < g) (c1 : w0.cell? ⟨b1, x1, none⟩ = some v1) (c2 : w0.cell? ⟨b2, x2, none⟩ = some v2) (o : Obj) :
    (w1.alloc o).cell? ⟨g, 0, none⟩ = some a ∧ (w1.alloc o).cell? ⟨g, 1, none⟩ = some b ∧ (w1.alloc o).cell? ⟨g, 2, none⟩ = some (.int .i64 k) ∧ (w1.alloc o).cell? ⟨b1, x1, none⟩ = some v1 ∧ (w1.alloc o).cell? ⟨b2, x2, none⟩ = some v2 := by
  have hlt : g < w1.heap.size := (Array.getElem?_eq_some_iff.1 h).1
  have h1 := block_alloc h o
  have hB := hb.alloc (Nat.le_of_lt hlt) o
  exact ⟨cell_of_block (cs := [_, _, _]) h1 0, cell_of_block (cs := [_, _, _]) h1 1, cell_of_block (cs := [_, _, _]) h1 2, (hB.cell (p := ⟨b1, x1, none⟩) hb1).trans c1, (hB.cell (p := ⟨b2, x2, none⟩) hb2).trans c2⟩

theorem set_facts {w2 : World} {p base size n : Nat} {e : TypeId} {v : Value} {xs : List Value} (h : w2.ownsRow base e size v n xs) (hs : w2.heap.size = p + 1) (top : ∀ g, v.ownBlock = some g → g < p) (x y : Value) (o : Obj) :
    (((w2.setCell ⟨p, 1, none⟩ x).setCell ⟨p, 2, none⟩ y).alloc o).ownsRow base e size v n xs ∧ (((w2.setCell ⟨p, 1, none⟩ x).setCell ⟨p, 2, none⟩ y).alloc o).heap[p + 1]? = some o ∧
    (((w2.setCell ⟨p, 1, none⟩ x).setCell ⟨p, 2, none⟩ y).alloc o).heap.size = p + 2 ∧ Below p w2 (((w2.setCell ⟨p, 1, none⟩ x).setCell ⟨p, 2, none⟩ y).alloc o) := by
  have hb : Below p w2 ((w2.setCell ⟨p, 1, none⟩ x).setCell ⟨p, 2, none⟩ y) := ((Below.refl p w2).setCell (show p ≤ p from Nat.le_refl _) x).setCell (show p ≤ p from Nat.le_refl _) y
  have hz : ((w2.setCell ⟨p, 1, none⟩ x).setCell ⟨p, 2, none⟩ y).heap.size = p + 1 := by rw [size_set, size_set, hs]
  have h1 := heap_alloc_new ((w2.setCell ⟨p, 1, none⟩ x).setCell ⟨p, 2, none⟩ y) o
  rw [hz] at h1
  refine ⟨own_alloc (own_below h hb top) o, h1, ?_, hb.alloc (by omega) o⟩
  simp [hz]

theorem ansL_full {l : List (Int × Nat)} {m : Nat} (h : m ≤ l.length) : ansL l m = (l.take m).map oneA := by unfold ansL; rw [if_neg (by omega), List.append_nil]
theorem ansL_over {l : List (Int × Nat)} {m : Nat} (h : l.length < m) : ansL l m = l.map oneA ++ [(0, 0, 0)] := by unfold ansL; rw [if_pos h, List.take_of_length_le (by omega)]
theorem take_next {α : Type} {l : List α} {k : Nat} (h : k < l.length) : l.take (k + 1) = l.take k ++ [l[k]] := by rw [List.take_add_one, List.getElem?_eq_getElem h]; rfl
theorem length_takeA (l : List (Int × Nat)) (k : Nat) (h : k ≤ l.length) : ((l.take k).map oneA).length = k := by simp; omega

set_option maxRecDepth 100000 in
set_option maxHeartbeats 4000000 in
theorem played_any (g : Nat) (X Y sv : Value) (l : List (Int × Nat)) (st : List (Bool × Int)) (w : World) (hX : Ints w g .i64 X (l.map (·.1))) (hY : Floats w g Y (l.map (·.2))) (hS : Steps w g sv st) (h0 : ∀ x ∈ st, x = (false, 0))
    (hg : w.heap[g]? = some (.cells #[X, Y, .int .i64 (-1)] 60 (0, 0))) (hl : l.length ≤ 2147483646) (hm : st.length ≤ 2147483646) :
    Calls Try.prog 11 #[.iface 58 (.pointer (some ⟨g, 0, none⟩)), sv] w fun e w' => ∃ v', e = .returned v' ∧ Answers w' w'.heap.size v' (ansL l st.length) ∧ Below g w w' := by
  obtain ⟨xo, xc, rfl, hx1, hx2⟩ := hX.form
  obtain ⟨yo, yc, rfl, hy1, hy2⟩ := hY.form
  obtain ⟨so, sc, rfl, hs1, hs2⟩ := hS.form
  simp only [List.length_map] at *
  have hgs : g < w.heap.size := (Array.getElem?_eq_some_iff.1 hg).1
  have hmN := mnext_method
  have hmA := mat_method
  go_enter Try.func11, Try.ntmps11
  go_wp2_with fail
  go_loopw [4, 13] (fun z i wr => ∃ k : Nat, k ≤ st.length ∧ k ≤ l.length ∧ i = .int .i64 k ∧ wr.ownsRow w.heap.size 46 3 z k (flat3 ((l.take k).map oneA)) ∧ Below g w wr ∧ w.heap.size ≤ wr.heap.size ∧ wr.heap[g]? = some (.cells #[.slice xo l.length xc, .slice yo l.length yc, .int .i64 ((k : Int) - 1)] 60 (0, 0))) (fun _ i _ => st.length - (intOf i).toNat)
  case atStart => exact ⟨0, Nat.zero_le _, Nat.zero_le _, rfl, World.ownsRow_nil _ _ _ _, Below.refl _ _, Nat.le_refl _, hg⟩
  case round => as_aux_lemma =>
    obtain ⟨k, hk, hkl, rfl, hown, hbel, hsz, hgr⟩ := hrel
    obtain ⟨za, zc, rfl⟩ := own_form hown
    by_cases hlt : k < st.length
    · obtain ⟨b, off, rfl, hbB, hBw, hc⟩ := hS.at_ (by omega)
      obtain ⟨c0, c1⟩ := hc k hlt
      have e0 := h0 _ (List.getElem_mem hlt)
      rw [e0] at c0 c1
      have c0' := (hbel.cell (p := ⟨b, off + k * 2, none⟩) (show b < g by omega)).trans c0
      have c1' := (hbel.cell (p := ⟨b, off + k * 2 + 1, none⟩) (show b < g by omega)).trans c1
      clear c0 c1 hc e0
      have i0 : (0 : Int) ≤ (k : Int) := by omega
      have i1 : (k : Int) < (st.length : Int) := by omega
      obtain ⟨ia, hia, hia0, hia1, hia2⟩ := info_parts infoAns
      have hgw : g < wr.heap.size := Nat.lt_of_lt_of_le hgs hsz
      have G1 : ∀ o, (wr.alloc o).heap[g]? = some (.cells #[.slice xo l.length xc, .slice yo l.length yc, .int .i64 ((k : Int) - 1)] 60 (0, 0)) := fun o => block_alloc hgr o
      have G1c : ∀ o, (wr.alloc o).cell? ⟨g, 0, none⟩ = some (.slice xo l.length xc) ∧ (wr.alloc o).cell? ⟨g, 2, none⟩ = some (.int .i64 ((k : Int) - 1)) := fun o => ⟨cell_of_block (cs := [_, _, _]) (G1 o) 0, cell_of_block (cs := [_, _, _]) (G1 o) 2⟩
      have F1 : ∀ o, (wr.alloc o).frozen? ⟨g, 2, none⟩ = false := fun o => not_frozen (G1 o) 2
      have B1 : ∀ o, Below g w (wr.alloc o) := fun o => hbel.alloc (Nat.le_of_lt hgw) o
      have O1 : ∀ o, (wr.alloc o).ownsRow w.heap.size 46 3 (.slice za k zc) k (flat3 ((l.take k).map oneA)) := fun o => own_alloc hown o
      by_cases hlk : k < l.length
      · obtain ⟨b1, o1, rfl, hx3, hx4, hx5⟩ := hX.at_ (by simp; omega)
        obtain ⟨b2, o2, rfl, hy3, hy4, hy5⟩ := hY.at_ (by simp; omega)
        have hxk := hx5 k (by simp; omega)
        have hyk := hy5 k (by simp; omega)
        rw [List.getElem_map] at hxk hyk
        clear hx5 hy5
        go_wp2_with (first
          | (go_at_call 44; refine (mockNext_more g l.length xc _ ((k : Int) - 1) _ (G1c _).1 (G1c _).2 (F1 _) (by omega) (by omega) (by omega)).mono ?_; rintro e w1 ⟨rfl, hw1⟩; obtain ⟨N1, N2, N3, N4⟩ := next_facts hgr hw1; clear hw1; have A1 := at_pre N3 (hbel.trans N1) hx3 hy3 hxk hyk)
          | (go_at_call 39; refine (mockAt_any g b1 o1 l.length xc b2 o2 l.length yc k (l[k]).1 (l[k]).2 _ (A1 _).1 (A1 _).2.1 (A1 _).2.2.1 (A1 _).2.2.2.1 (A1 _).2.2.2.2 hlk hlk).mono ?_; rintro e w2 ⟨rfl, hw2⟩; obtain ⟨M1, M2, M3⟩ := at_facts N3 N2 hw2; clear hw2; have O2 := own_below (N4 _ _ _ _ _ _ hown (by decide)) M1 (fun q hq => by have := (hown.lt q hq).2; omega); have S4 := set_facts O2 M2 (fun q hq => by have := (hown.lt q hq).2; omega); clear O2; have C0 := cell_of_block (cs := [_, _, _]) M3 0; have C1 := cell_of_block (cs := [_, _, _]) M3 1; have C2 := cell_of_block (cs := [_, _, _]) M3 2; have Z1 := not_frozen M3 1; have Z2 := not_frozen M3 2)
          | (go_at_call 14; refine (bitsOf_any _ _).mono ?_; rintro e w3 ⟨rfl, rfl⟩)
          | (at_builtin; refine list_app 33 46 ia _ 3 24 rfl (.tmp 40) (.tmp 42) rfl rfl Try.underlying33 hia hia0 hia1 hia2 rfl (by decide) (by decide) w.heap.size (.slice za k zc) k (flat3 ((l.take k).map oneA)) rfl (S4 _ _ _).1 (wr.heap.size + 1 + 1) rfl [.int .i64 1, .int .i64 (l[k]).1, .int .u64 ((l[k]).2 : Int)] rfl (S4 _ _ _).2.1 (one3 _ _ _) (by omega) (by rw [(S4 _ _ _).2.2.1]; omega) ?_; intro v' w' ho hgn; obtain ⟨va, vc, rfl⟩ := own_form ho)
          | fail)
        go_roundw
        case rel =>
          have hB4 := (S4 (.int .i64 (l[k]).1) (.int .u64 ((l[k]).2 : Int)) (.cells #[.int .i64 1, .int .i64 (l[k]).1, .int .u64 ((l[k]).2 : Int)] 46)).2.2
          have hBp := M1.trans hB4.2
          have hBg := hBp.mono (show g ≤ wr.heap.size + 1 by omega)
          refine ⟨k + 1, by omega, by omega, by simp, ?_, ((hbel.trans N1).trans hBg).grown hgn (by rw [hB4.1]; omega) (fun q hq => Nat.le_trans (Nat.le_of_lt hgs) (hown.lt q hq).1), Nat.le_trans (by rw [hB4.1]; omega) hgn.size, ?_⟩
          · rw [take_next hlk, List.map_append, flat3_append]
            exact ho
          · rw [hgn.block g (by rw [hB4.1]; omega) (fun c => by have := (hown.lt g c.symm).1; omega), hBp.block g (by omega), N3]
            have e : (((k + 1 : Nat) : Int) - 1) = (k : Int) := by omega
            rw [e]
        case measure => simp [intOf]; omega
      · obtain rfl : k = l.length := by omega
        have hsz3 := size_three wr (.cells #[.bool false, .int .i64 0] 26) (.cells #[.int .i64 0, .int .i64 0, .int .u64 0] 46) (.cells #[.int .i64 0, .int .i64 0, .int .u64 0] 46)
        go_wp2_with (first | (go_at_call 44; refine (mockNext_none g l.length xc xo ((l.length : Int) - 1) _ (G1c _).1 (G1c _).2 (by omega) (by omega) (by omega)).mono ?_; rintro e w' ⟨rfl, rfl⟩) | (at_builtin; refine list_app 33 46 ia _ 3 24 rfl (.tmp 40) (.tmp 42) rfl rfl Try.underlying33 hia hia0 hia1 hia2 rfl (by decide) (by decide) w.heap.size (.slice za l.length zc) l.length (flat3 ((l.take l.length).map oneA)) rfl (own_three hown _ _ _) (wr.heap.size + 1 + 1) rfl [.int .i64 0, .int .i64 0, .int .u64 0] rfl (three_new _ _ _ _) (one3 _ _ _) (by omega) (by omega) ?_; intro v' w' ho hgn; obtain ⟨va, vc, rfl⟩ := own_form ho) | fail)
        go_ret
        refine ⟨_, rfl, Answers.own (l := ansL l st.length) (n := l.length + 1) (e := 46) (base := w.heap.size) ?_, (below_three hbel (Nat.le_of_lt hgw) _ _ _).grown hgn (by omega) (fun q hq => Nat.le_trans (Nat.le_of_lt hgs) (hown.lt q hq).1)⟩
        rw [ansL_over (by omega), flat3_append]
        rw [List.take_length] at ho
        exact ho
    · obtain rfl : k = st.length := by omega
      go_wp2_with fail
      go_ret
      refine ⟨_, rfl, Answers.own (l := ansL l st.length) (n := st.length) (e := 46) (base := w.heap.size) ?_, hbel⟩
      rw [ansL_full (by omega)]
      exact hown
end Go.Proofs.Ytmnfojolielnlaa
