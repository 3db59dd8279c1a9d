/-
  spec.Iterated over steps that are all Next.
-/
import Derived.Test.YtmnfojolielnlaaMockPlay
namespace Go.Proofs.Ytmnfojolielnlaa
set_option linter.unusedSimpArgs false
set_option linter.unusedVariables false
open Go.RowKit

theorem own_drewN {w : World} {base size n : Nat} {e : TypeId} {v : Value} {xs : List Value} (h : w.ownsRow base e size v n xs) (q : Nat) : (w.drewN q).ownsRow base e size v n xs := own_heap (w := w) rfl h
theorem own_empty (w : World) (t : TypeId) (size : Nat) : (w.alloc (.cells #[] t)).ownsRow w.heap.size t size (.slice (some ⟨w.heap.size, 0, none⟩) 0 0) 0 [] :=
  ⟨by simp, .inr ⟨w.heap.size, 0, #[], rfl, Nat.le_refl _, heap_alloc_new w _, Nat.le_refl _, by decide, by simp, by simp⟩⟩

theorem keepB_below {w0 w1 : World} {b x y B : Nat} {u0 u1 : Value} (h : w0.cell? ⟨b, x, none⟩ = some u0 ∧ w0.cell? ⟨b, y, none⟩ = some u1) (hb : Below B w0 w1) (hB : b < B) : w1.cell? ⟨b, x, none⟩ = some u0 ∧ w1.cell? ⟨b, y, none⟩ = some u1 :=
  ⟨(hb.cell (p := ⟨b, x, none⟩) hB).trans h.1, (hb.cell (p := ⟨b, y, none⟩) hB).trans h.2⟩
theorem keepB_alloc_drew {w : World} {b x y : Nat} {u0 u1 : Value} (h : w.cell? ⟨b, x, none⟩ = some u0 ∧ w.cell? ⟨b, y, none⟩ = some u1) (o : Obj) : (w.alloc o).drew.cell? ⟨b, x, none⟩ = some u0 ∧ (w.alloc o).drew.cell? ⟨b, y, none⟩ = some u1 :=
  keepB_below h ((Below.refl w.heap.size w).alloc (Nat.le_refl _) o).drew (lt_of_cell h.1).1

set_option maxRecDepth 100000 in
set_option maxHeartbeats 4000000 in
theorem iterated_any (lv sv : Value) (l : List (Int × Nat)) (st : List (Bool × Int)) (B : Nat) (w : World) (hL : Pairs w B .i64 .u64 lv (zs l)) (hS : Steps w B sv st) (hB : B ≤ w.heap.size) (h0 : ∀ x ∈ st, x = (false, 0)) (hl : l.length ≤ 2147483646) (hm : st.length ≤ 2147483646) :
    Calls Try.prog 8 #[lv, sv] w fun e w' => ∃ v', e = .returned v' ∧ Answers w' w'.heap.size v' (ansL l st.length) ∧ Below w.heap.size w w' := by
  obtain ⟨ia, hia, hia0, hia1, hia2⟩ := info_parts infoAns
  obtain ⟨lo, lc, rfl, hl1, hl2⟩ := hL.form
  obtain ⟨so, sc, rfl, hs1, hs2⟩ := hS.form
  simp only [List.length_map] at *
  go_enter Try.func8, Try.ntmps8
  go_wp2_with fail
  go_loopw [5, 6, 7] (fun z at' i wr => ∃ k : Nat, k ≤ st.length ∧ k ≤ l.length ∧ i = .int .i64 k ∧ at' = .int .i64 ((k : Int) - 1) ∧ wr.ownsRow w.heap.size 46 3 z k (flat3 ((l.take k).map oneA)) ∧ Below w.heap.size w wr) (fun _ _ i _ => st.length - (intOf i).toNat)
  case atStart => exact ⟨0, Nat.zero_le _, Nat.zero_le _, rfl, rfl, own_empty w _ _, (Below.refl _ _).alloc (Nat.le_refl _) _⟩
  case round => as_aux_lemma =>
    obtain ⟨k, hk, hkl, rfl, rfl, hown, hbel⟩ := hrel
    obtain ⟨za, zc, rfl⟩ := own_form hown
    by_cases hlt : k < st.length
    · obtain ⟨b, off, rfl, hbB, hBw, hc⟩ := hS.at_ (by omega)
      obtain ⟨c0, c1⟩ := hc k hlt
      have e0 := h0 _ (List.getElem_mem hlt)
      rw [e0] at c0 c1
      have c0' := (hbel.cell (p := ⟨b, off + k * 2, none⟩) (show b < w.heap.size by omega)).trans c0
      have c1' := (hbel.cell (p := ⟨b, off + k * 2 + 1, none⟩) (show b < w.heap.size by omega)).trans c1
      clear c0 c1 hc e0
      have i0 : (0 : Int) ≤ (k : Int) := by omega
      have i1 : (k : Int) < (st.length : Int) := by omega
      by_cases hlk : k < l.length
      · obtain ⟨b1, o1, rfl, hx3, hx4, hx5⟩ := hL.at_ (by simp; omega)
        obtain ⟨d0, d1⟩ := hx5 k (by simpa using hlk)
        have d0' := (hbel.cell (p := ⟨b1, o1 + k * 2, none⟩) (show b1 < w.heap.size by omega)).trans d0
        have d1' := (hbel.cell (p := ⟨b1, o1 + k * 2 + 1, none⟩) (show b1 < w.heap.size by omega)).trans d1
        rw [List.getElem_map] at d0' d1'
        clear d0 d1 hx5
        have hx := take_next hlk
        have hT' : flat3 ((l.take (k + 1)).map oneA) = flat3 ((l.take k).map oneA) ++ [.int .i64 1, .int .i64 l[k].1, .int .u64 (l[k].2 : Int)] := by rw [hx, List.map_append, flat3_append]; rfl
        generalize l[k] = x at *
        obtain ⟨T, V⟩ := x
        have HT := Lib.hid hT'
        clear hx hT'
        have i2 : (k : Int) < (l.length : Int) := by omega
        go_wp2_with fail
        refine wp_loop_rounds 1 ?_
        rw [rounds_succ]
        go_wp2_with fail
        go_quiet (fail)
        go_wp2_with fail
        have hxO : (wr.drewN nq).ownsRow w.heap.size 46 3 (.slice za k zc) k (flat3 ((l.take k).map oneA)) := own_drewN hown nq
        have hxB : Below w.heap.size w (wr.drewN nq) := below_drewN hbel nq
        have hxc : (wr.drewN nq).cell? ⟨b1, o1 + k * 2, none⟩ = some (.int .i64 T) ∧ (wr.drewN nq).cell? ⟨b1, o1 + k * 2 + 1, none⟩ = some (.int .u64 (V : Int)) := ⟨d0', d1'⟩
        clear c0' c1' d0' d1' hown hbel
        generalize wr.drewN nq = W at *
        have hxd : W.drew.cell? ⟨b1, o1 + k * 2, none⟩ = some (.int .i64 T) ∧ W.drew.cell? ⟨b1, o1 + k * 2 + 1, none⟩ = some (.int .u64 (V : Int)) := hxc
        have hWb : w.heap.size ≤ W.heap.size := hxB.size
        go_region_held3 (fun w' => w'.cell? ⟨b1, o1 + k * 2, none⟩ = some (.int .i64 T) ∧ w'.cell? ⟨b1, o1 + k * 2 + 1, none⟩ = some (.int .u64 (V : Int))) (first | (with_reducible assumption) | (with_reducible exact keepB_alloc_drew hxc _) | (with_reducible exact hc2) | fail)
          (first
            | (refine step_app 33 46 ia _ 3 24 rfl (.tmp 61) (.tmp 73) rfl rfl Try.underlying33 hia hia0 hia1 hia2 rfl (by decide) (by decide) w.heap.size (.slice za k zc) k (flat3 ((l.take k).map oneA)) rfl (own_drew (own_alloc hxO _)) W.heap.size rfl [.int .i64 1, .int .i64 T, .int .u64 (V : Int)] rfl (heap_alloc_new W _) (one3 _ _ _) (by omega) (by simp; omega) ?_; intro z' w2 ho hgn; obtain ⟨z2, zc2, rfl⟩ := own_form ho; have hO1 := own_drew (own_alloc hxO (.cells #[.int .i64 1, .int .i64 T, .int .u64 (V : Int)] 46)); have hb0 := (hxB.alloc hWb (.cells #[.int .i64 1, .int .i64 T, .int .u64 (V : Int)] 46)).drew; have hb2 := hb0.grown hgn (by simp; omega) (fun q hq => (hO1.lt q hq).1); have hc2 := keepB_below (w0 := (W.alloc (.cells #[.int .i64 1, .int .i64 T, .int .u64 (V : Int)] 46)).drew) (keepB_alloc_drew hxc _) (B := w.heap.size) ((Below.refl _ _).grown hgn (by simp; omega) (fun q hq => (hO1.lt q hq).1)) (by omega))
            | fail)
        rw [← HT.out] at ho
        clear hb0 hO1 hc2 hxO hxB hxc hxd hgn hWb
        go_wp2_with fail
        go_roundw
        case rel => exact ⟨k + 1, by omega, by omega, by simp, by go_num, ho, hb2⟩
        case measure => simp [intOf]; omega
      · obtain rfl : k = l.length := by omega
        go_wp2_with fail
        refine wp_loop_rounds 1 ?_
        rw [rounds_succ]
        go_wp2_with fail
        go_quiet (fail)
        have hxO : (wr.drewN nq).ownsRow w.heap.size 46 3 (.slice za l.length zc) l.length (flat3 ((l.take l.length).map oneA)) := own_drewN hown nq
        have hxB : Below w.heap.size w (wr.drewN nq) := below_drewN hbel nq
        clear c0' c1' hown hbel
        generalize wr.drewN nq = W at *
        have hWb : w.heap.size ≤ W.heap.size := hxB.size
        go_wp2_with (first | (at_builtin; refine list_app 33 46 ia _ 3 24 rfl (.tmp 57) (.tmp 59) rfl rfl Try.underlying33 hia hia0 hia1 hia2 rfl (by decide) (by decide) w.heap.size (.slice za l.length zc) l.length (flat3 ((l.take l.length).map oneA)) rfl (own_alloc hxO _) W.heap.size rfl [.int .i64 0, .int .i64 0, .int .u64 0] rfl (heap_alloc_new W _) (one3 _ _ _) (by omega) (by simp; omega) ?_; intro v' w' ho hgn; obtain ⟨va, vc, rfl⟩ := own_form ho) | fail)
        go_ret
        have hO1 := own_alloc hxO (.cells #[.int .i64 0, .int .i64 0, .int .u64 0] 46)
        refine ⟨_, rfl, Answers.own (l := ansL l st.length) (n := l.length + 1) (e := 46) (base := w.heap.size) ?_, (hxB.alloc hWb (.cells #[.int .i64 0, .int .i64 0, .int .u64 0] 46)).grown hgn (by simp; omega) (fun q hq => (hO1.lt q hq).1)⟩
        rw [ansL_over (by omega), flat3_append]
        rw [List.take_length] at ho
        exact ho
    · obtain rfl : k = st.length := by omega
      go_wp2_with fail
      go_ret
      refine ⟨_, rfl, Answers.own (l := ansL l st.length) (n := st.length) (e := 46) (base := w.heap.size) ?_, hbel⟩
      rw [ansL_full (by omega)]
      exact hown
end Go.Proofs.Ytmnfojolielnlaa
