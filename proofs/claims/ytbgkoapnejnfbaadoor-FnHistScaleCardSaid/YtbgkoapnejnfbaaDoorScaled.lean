/-
  spec.Scaled: a histogram with its counts multiplied, or divided.
-/
import Derived.Test.YtbgkoapnejnfbaaDoorScaled1
namespace Go.Proofs.YtbgkoapnejnfbaaDoor
set_option linter.unusedSimpArgs false
set_option linter.unusedVariables false
open Go.RowKit
attribute [local go_sem ↓] Go.wp_at_zero Go.wp_at_succ
attribute [local go_sem] cell_there frozen_there

theorem five (w : World) (o0 o1 o2 o3 o4 : Obj) : (((((w.alloc o0).alloc o1).alloc o2).alloc o3).alloc o4).heap[w.heap.size]? = some o0 ∧ (((((w.alloc o0).alloc o1).alloc o2).alloc o3).alloc o4).heap[w.heap.size + 1]? = some o1 ∧
    (((((w.alloc o0).alloc o1).alloc o2).alloc o3).alloc o4).heap[w.heap.size + 1 + 1]? = some o2 ∧ (((((w.alloc o0).alloc o1).alloc o2).alloc o3).alloc o4).heap[w.heap.size + 1 + 1 + 1]? = some o3 ∧ (((((w.alloc o0).alloc o1).alloc o2).alloc o3).alloc o4).heap[w.heap.size + 1 + 1 + 1 + 1]? = some o4 ∧
    (((((w.alloc o0).alloc o1).alloc o2).alloc o3).alloc o4).heap.size = w.heap.size + 5 := by
  have s1 : ∀ (u : World) (o : Obj), (u.alloc o).heap.size = u.heap.size + 1 := fun u o => by simp
  have n0 := heap_alloc_new w o0
  have n1 := heap_alloc_new (w.alloc o0) o1
  have n2 := heap_alloc_new ((w.alloc o0).alloc o1) o2
  have n3 := heap_alloc_new (((w.alloc o0).alloc o1).alloc o2) o3
  have n4 := heap_alloc_new ((((w.alloc o0).alloc o1).alloc o2).alloc o3) o4
  simp only [s1] at n1 n2 n3 n4
  refine ⟨?_, ?_, ?_, ?_, n4, by simp only [s1]⟩
  · rw [Below.heap_alloc _ _ _ (by simp only [s1]; omega), Below.heap_alloc _ _ _ (by simp only [s1]; omega), Below.heap_alloc _ _ _ (by simp only [s1]; omega), Below.heap_alloc _ _ _ (by simp only [s1]; omega)]; exact n0
  · rw [Below.heap_alloc _ _ _ (by simp only [s1]; omega), Below.heap_alloc _ _ _ (by simp only [s1]; omega), Below.heap_alloc _ _ _ (by simp only [s1]; omega)]; exact n1
  · rw [Below.heap_alloc _ _ _ (by simp only [s1]; omega), Below.heap_alloc _ _ _ (by simp only [s1]; omega)]; exact n2
  · rw [Below.heap_alloc _ _ _ (by simp only [s1]; omega)]; exact n3

theorem There13.below' {w w' : World} {B g : Nat} (h : There13 w g) (hb : Below B w w') (hg : g < B) : There13 w' g := h.below hb hg
theorem frozen_below {w w' : World} {B b k : Nat} (hb : Below B w w') (h : b < B) : w'.frozen? ⟨b, k, none⟩ = w.frozen? ⟨b, k, none⟩ := by
  unfold World.frozen?
  rw [hb.block b h]

theorem frz (W : World) (c1 c2 c3 : Bool) (q k : Nat) {cs : Array Value} {t : TypeId} (hq : W.heap[q]? = some (.cells cs t)) : (dr c3 (dr c2 (dr c1 W.drew.drew).drew).drew).frozen? ⟨q, k, none⟩ = false := by
  rw [frozen_dr]; show (dr c2 _).frozen? _ = _; rw [frozen_dr]; show (dr c1 _).frozen? _ = _; rw [frozen_dr]; show W.frozen? _ = false; simp [World.frozen?, hq]

theorem drs_heap (W : World) (c1 c2 c3 : Bool) : (dr c3 (dr c2 (dr c1 W.drew.drew).drew).drew).heap = W.heap := by cases c1 <;> cases c2 <;> cases c3 <;> rfl
theorem drs_below (W : World) (c1 c2 c3 : Bool) (B : Nat) : Below B W (dr c3 (dr c2 (dr c1 W.drew.drew).drew).drew) := below_dr (below_dr (below_dr (Below.refl B W).drew.drew c1).drew c2).drew c3
theorem set354 (e0 e1 e2 e3 e4 e5 e6 e7 e8 e9 e10 e11 e12 x y z : Value) : (((#[e0, e1, e2, e3, e4, e5, e6, e7, e8, e9, e10, e11, e12] : Array Value).setIfInBounds 3 x).setIfInBounds 5 y).setIfInBounds 4 z = #[e0, e1, e2, x, z, y, e6, e7, e8, e9, e10, e11, e12] := by simp [Array.setIfInBounds]
theorem set1011 (e0 e1 e2 e3 e4 e5 e6 e7 e8 e9 e10 e11 e12 x y : Value) : ((#[e0, e1, e2, e3, e4, e5, e6, e7, e8, e9, e10, e11, e12] : Array Value).setIfInBounds 10 x).setIfInBounds 11 y = #[e0, e1, e2, e3, e4, e5, e6, e7, e8, e9, x, y, e12] := by simp [Array.setIfInBounds]
theorem set10 (e0 e1 e2 e3 e4 e5 e6 e7 e8 e9 e10 e11 e12 x : Value) : (#[e0, e1, e2, e3, e4, e5, e6, e7, e8, e9, e10, e11, e12] : Array Value).setIfInBounds 10 x = #[e0, e1, e2, e3, e4, e5, e6, e7, e8, e9, x, e11, e12] := by simp [Array.setIfInBounds]
theorem set11 (e0 e1 e2 e3 e4 e5 e6 e7 e8 e9 e10 e11 e12 x : Value) : (#[e0, e1, e2, e3, e4, e5, e6, e7, e8, e9, e10, e11, e12] : Array Value).setIfInBounds 11 x = #[e0, e1, e2, e3, e4, e5, e6, e7, e8, e9, e10, x, e12] := by simp [Array.setIfInBounds]
theorem sets_out {W : World} {q : Nat} {t : TypeId} {e0 e1 e2 e3 e4 e5 e6 e7 e8 e9 e10 e11 e12 : Value} (x y z : Value) (h : W.heap[q]? = some (.cells #[e0, e1, e2, e3, e4, e5, e6, e7, e8, e9, e10, e11, e12] t (0, 0))) : (((W.setCell ⟨q, 3, none⟩ x).setCell ⟨q, 5, none⟩ y).setCell ⟨q, 4, none⟩ z).heap[q]? = some (.cells #[e0, e1, e2, x, z, y, e6, e7, e8, e9, e10, e11, e12] t (0, 0)) := by
  rw [← set354]; exact heap_set (heap_set (heap_set h))
theorem sets_nil {W : World} {q : Nat} {t : TypeId} {e0 e1 e2 e3 e4 e5 e6 e7 e8 e9 e10 e11 e12 : Value} (x y : Value) (h : W.heap[q]? = some (.cells #[e0, e1, e2, e3, e4, e5, e6, e7, e8, e9, e10, e11, e12] t (0, 0))) : ((W.setCell ⟨q, 10, none⟩ x).setCell ⟨q, 11, none⟩ y).heap[q]? = some (.cells #[e0, e1, e2, e3, e4, e5, e6, e7, e8, e9, x, y, e12] t (0, 0)) := by
  rw [← set1011]; exact heap_set (heap_set h)
theorem sets_below (W : World) (q : Nat) (x y z : Value) : Below q W (((W.setCell ⟨q, 3, none⟩ x).setCell ⟨q, 5, none⟩ y).setCell ⟨q, 4, none⟩ z) :=
  (((Below.refl q W).setCell (show q ≤ q from Nat.le_refl _) x).setCell (show q ≤ q from Nat.le_refl _) y).setCell (show q ≤ q from Nat.le_refl _) z
theorem sets_below2 (W : World) (q : Nat) (x y : Value) : Below q W ((W.setCell ⟨q, 10, none⟩ x).setCell ⟨q, 11, none⟩ y) :=
  ((Below.refl q W).setCell (show q ≤ q from Nat.le_refl _) x).setCell (show q ≤ q from Nat.le_refl _) y

theorem drd_heap (c : Bool) (W : World) : (dr c W.drew.drew).heap = W.heap := by cases c <;> rfl
theorem ownsRow_heap {w w' : World} {base size n : Nat} {e : TypeId} {v : Value} {xs : List Value} (hh : w'.heap = w.heap) (h : w.ownsRow base e size v n xs) : w'.ownsRow base e size v n xs := by
  unfold World.ownsRow; rw [hh]; exact h
theorem frz1 {w : World} {q k : Nat} {cs : Array Value} {t : TypeId} (hq : w.heap[q]? = some (.cells cs t (0, 0))) : w.frozen? ⟨q, k, none⟩ = false := by simp [World.frozen?, hq]
theorem sc_alloc {w : World} {b k : Nat} {u : Value} (ha : b < w.heap.size) (h : w.cell? ⟨b, k, none⟩ = some u) (o : Obj) : (w.alloc o).cell? ⟨b, k, none⟩ = some u :=
  (((Below.refl w.heap.size w).alloc (Nat.le_refl _) o).cell (p := ⟨b, k, none⟩) ha).trans h

theorem run_append_one (w : World) (base : Nat) (v : Value) (n : Nat) (xs : List Value) (hown : w.ownsRow base 22 1 v n xs) (g : Nat) (z : Int) (hc : w.cell? ⟨g, 0, none⟩ = some (.int .u64 z)) (hn : n + 1 ≤ 8589934592) (hbase : base ≤ w.heap.size) :
    ∃ v' w', (Builtin.append_ #[25, 25] 25 #[v, .slice (some ⟨g, 0, none⟩) 1 1]).run Tryd.prog w = .ok v' w' ∧ w'.ownsRow base 22 1 v' (n + 1) (xs ++ [.int .u64 z]) ∧ w.grownBy w' v.ownBlock := by
  obtain ⟨i0, hi, hz0, hz1, hz2⟩ := info_parts infoU64
  obtain ⟨v', w', hr, h2, h3, _⟩ := run_append_own (P := Tryd.prog) w base 25 25 22 i0 (.int .u64 0) 1 8 Tryd.underlying25 hi hz0 hz1 hz2 rfl (by decide) v n xs hown ⟨g, 0, none⟩ 1 1 [.int .u64 z] rfl (fun j u hj => by
    match j, hj with
    | 0, hj =>
      simp only [List.getElem?_cons_zero, Option.some.injEq] at hj
      subst hj
      rw [show (⟨g, 0, none⟩ : Addr).add 0 = ⟨g, 0, none⟩ from by simp [Addr.add]]
      exact hc
    | j + 1, hj => simp at hj) (one1 _ _) (by unfold maxLen; omega) (by omega) hbase
  exact ⟨v', w', hr, h2, h3⟩

def AppOk (w : World) (v s : Value) : Prop := ∃ r : Value × World, (Builtin.append_ #[25, 25] 25 #[v, s]).run Tryd.prog w = .ok r.1 r.2
open Classical in
noncomputable def apV (w : World) (v s : Value) : Value × World := if h : AppOk w v s then h.choose else (undef, w)
set_option maxRecDepth 100000 in
theorem apV_eq {w : World} {v s v' : Value} {w' : World} (h : (Builtin.append_ #[25, 25] 25 #[v, s]).run Tryd.prog w = .ok v' w') : AppOk w v s ∧ apV w v s = (v', w') := by
  have ok : AppOk w v s := ⟨(v', w'), h⟩
  refine ⟨ok, ?_⟩
  unfold apV
  rw [dif_pos ok]
  have hc : (Builtin.append_ #[25, 25] 25 #[v, s]).run Tryd.prog w = .ok (Exists.choose ok).1 (Exists.choose ok).2 := ok.choose_spec
  have hc' := h.symm.trans hc
  clear hc h
  generalize Exists.choose ok = r at hc' ⊢
  injection hc' with h1 h2
  subst h1
  subst h2
  rfl
set_option maxRecDepth 100000 in
theorem wp_append_pre {a : Act} {w : World} {K : Act → World → Prop} {Q : Exit → Act → World → Prop} {dst : Option Tmp} {x y : Operand} {pos : String} {after : Array Edge} {guard : Option (Nat × Bool)} (h : AppOk w (a.eval x) (a.eval y)) :
    Oper.wp Tryd.prog { dst := dst, op := .call { callee := .builtin .append, args := #[x, y], argTypes := #[25, 25] }, type := 25, pos := pos, after := after, guard := guard } a w K Q ↔ K (a.put dst (apV w (a.eval x) (a.eval y)).1) (apV w (a.eval x) (a.eval y)).2 := by
  obtain ⟨r, hr⟩ := h
  obtain ⟨_, he⟩ := apV_eq hr
  rw [he]
  unfold Oper.wp execOp
  simp only [resolve, invoke, builtin, Sem.run_bind, Sem.run_pure, Result.andThen_ok, List.map_toArray, List.map_cons, List.map_nil, hr]
  first | done | exact Iff.rfl
attribute [local go_sem ↓ high] wp_append_pre

theorem ownsRow_keep {w w' : World} {base base' size n : Nat} {e : TypeId} {v : Value} {xs : List Value} (hh : ∀ k, base' ≤ k → w'.heap[k]? = w.heap[k]?) (hB : base' ≤ base) (h : w.ownsRow base e size v n xs) : w'.ownsRow base e size v n xs := by
  obtain ⟨h1, h2⟩ := h
  refine ⟨h1, ?_⟩
  rcases h2 with h2 | ⟨g, cap, cur, e', k1, k2, k3, k4, k5, k6⟩
  · exact .inl h2
  · exact .inr ⟨g, cap, cur, e', k1, by rw [hh g (Nat.le_trans hB k1)]; exact k2, k3, k4, k5, k6⟩
theorem setRow_other (w : World) {g k : Nat} (cs : Array Value) (hk : k ≠ g) : (w.setRow g cs).heap[k]? = w.heap[k]? := by
  simp [World.setRow, Array.getElem?_modify, Ne.symm hk]
theorem setRow_size (w : World) (g : Nat) (cs : Array Value) : (w.setRow g cs).heap.size = w.heap.size ∧ (w.setRow g cs).os = w.os ∧ (w.setRow g cs).tape = w.tape ∧ (w.setRow g cs).output = w.output := by
  simp [World.setRow]
theorem sc_step {dv : Bool} {f : Nat} {L us : List Nat} {k y x : Nat} (hlen : us.length = k) (hsc : ∀ j, j < k → ScR dv f (L.getD j 0) (us.getD j 0)) (hx : L.getD k 0 = x) (hy : ScR dv f x y) : ∀ j, j < k + 1 → ScR dv f (L.getD j 0) ((us ++ [y]).getD j 0) := by
  intro j hj
  by_cases hjk : j = k
  · subst hjk
    have e : (us ++ [y]).getD us.length 0 = y := by simp
    rw [hlen] at e
    rw [hx, e]
    exact hy
  · have := hsc j (by omega)
    have e : (us ++ [y]).getD j 0 = us.getD j 0 := by simp [List.getD_eq_getElem?_getD, List.getElem?_append_left (show j < us.length by omega)]
    rw [e]
    exact this

theorem step_append_one {ops : Array Oper} {o : Oper} {a : Act} {K : Act → World → Prop} {Q : Exit → Act → World → Prop} {E : Prop} {w : World} (hgd : o.guard = none) (x y : Operand)
    (ho : o.op = .call { callee := .builtin .append, args := #[x, y], argTypes := #[25, 25] }) (hty : o.type = 25)
    (base : Nat) (v : Value) (n : Nat) (xs : List Value) (hx : a.eval x = v) (hown : w.ownsRow base 22 1 v n xs)
    (g : Nat) (z : Int) (hy : a.eval y = .slice (some ⟨g, 0, none⟩) 1 1) (hc : w.cell? ⟨g, 0, none⟩ = some (.int .u64 z)) (hn : n + 1 ≤ 8589934592) (hbase : base ≤ w.heap.size)
    (hK : ∀ v' w', w'.ownsRow base 22 1 v' (n + 1) (xs ++ [.int .u64 z]) → w.grownBy w' v.ownBlock → K (a.put o.dst v') w') :
    if Region.wanted o (yielded ops a.tmps) = true then Oper.wp Tryd.prog o a w K Q else E := by
  have hw : Region.wanted o (yielded ops a.tmps) = true := by simp [Region.wanted, hgd]
  rw [if_pos hw]
  obtain ⟨i0, hi, hz0, hz1, hz2⟩ := info_parts infoU64
  obtain ⟨v', w', hr, h2, h3, _⟩ := run_append_own (P := Tryd.prog) w base 25 25 22 i0 (.int .u64 0) 1 8 Tryd.underlying25 hi hz0 hz1 hz2 rfl (by decide) v n xs hown ⟨g, 0, none⟩ 1 1 [.int .u64 z] rfl (fun j u hj => by
    match j, hj with
    | 0, hj =>
      simp only [List.getElem?_cons_zero, Option.some.injEq] at hj
      subst hj
      rw [show (⟨g, 0, none⟩ : Addr).add 0 = ⟨g, 0, none⟩ from by simp [Addr.add]]
      exact hc
    | j + 1, hj => simp at hj) (one1 _ _) (by unfold maxLen; omega) (by omega) hbase
  unfold Oper.wp execOp
  simp only [ho, hty, resolve, invoke, builtin, Sem.run_bind, Sem.run_pure, Result.andThen_ok, List.map_toArray, List.map_cons, List.map_nil, hx, hy, hr]
  exact hK v' w' h2 h3

section
variable {w w' : World} {p f : Nat} {h : Hist} {dv : Bool}
theorem keep3_dr (c : Bool) (hh : w.cell? ⟨p, 3, none⟩ = some (.int .u64 (h.sum : Int)) ∧ w.cell? ⟨p, 4, none⟩ = some (.int .u64 (h.zc : Int)) ∧ w.cell? ⟨p, 5, none⟩ = some (.int .u64 (h.cnt : Int)) ∧ w.cell? ⟨p + 1, 0, none⟩ = some (.int .u64 (f : Int)) ∧ w.cell? ⟨p + 1 + 1, 0, none⟩ = some (.bool dv) ∧ There13 w (p + 1 + 1 + 1 + 1)) : (dr c w.drew).cell? ⟨p, 3, none⟩ = some (.int .u64 (h.sum : Int)) ∧ (dr c w.drew).cell? ⟨p, 4, none⟩ = some (.int .u64 (h.zc : Int)) ∧ (dr c w.drew).cell? ⟨p, 5, none⟩ = some (.int .u64 (h.cnt : Int)) ∧ (dr c w.drew).cell? ⟨p + 1, 0, none⟩ = some (.int .u64 (f : Int)) ∧ (dr c w.drew).cell? ⟨p + 1 + 1, 0, none⟩ = some (.bool dv) ∧ There13 (dr c w.drew) (p + 1 + 1 + 1 + 1) := by
  obtain ⟨h1, h2, h3, h4, h5, h6⟩ := hh
  refine ⟨(cell_dr _ _ _).trans h1, (cell_dr _ _ _).trans h2, (cell_dr _ _ _).trans h3, (cell_dr _ _ _).trans h4, (cell_dr _ _ _).trans h5, ?_⟩
  obtain ⟨old, e1, e2⟩ := h6
  exact ⟨old, by rw [heap_dr]; exact e1, e2⟩
theorem scaled1_3 (hh : w.cell? ⟨p, 3, none⟩ = some (.int .u64 (h.sum : Int)) ∧ w.cell? ⟨p, 4, none⟩ = some (.int .u64 (h.zc : Int)) ∧ w.cell? ⟨p, 5, none⟩ = some (.int .u64 (h.cnt : Int)) ∧ w.cell? ⟨p + 1, 0, none⟩ = some (.int .u64 (f : Int)) ∧ w.cell? ⟨p + 1 + 1, 0, none⟩ = some (.bool dv) ∧ There13 w (p + 1 + 1 + 1 + 1)) (x : Nat) : Calls Tryd.prog 53 #[.int .u64 x, .pointer (some ⟨p + 1 + 1, 0, none⟩), .pointer (some ⟨p + 1, 0, none⟩)] w fun e w' => ∃ y : Nat, e = .returned (.int .u64 y) ∧ ScR dv f x y ∧ ∃ c, w' = dr c w.drew :=
  scaled1_any dv f x (p + 1 + 1) (p + 1) w hh.2.2.2.2.1 hh.2.2.2.1
theorem keep3_set (k : Nat) (u : Value) (hh : w.cell? ⟨p, 3, none⟩ = some (.int .u64 (h.sum : Int)) ∧ w.cell? ⟨p, 4, none⟩ = some (.int .u64 (h.zc : Int)) ∧ w.cell? ⟨p, 5, none⟩ = some (.int .u64 (h.cnt : Int)) ∧ w.cell? ⟨p + 1, 0, none⟩ = some (.int .u64 (f : Int)) ∧ w.cell? ⟨p + 1 + 1, 0, none⟩ = some (.bool dv) ∧ There13 w (p + 1 + 1 + 1 + 1)) : (w.setCell ⟨p + 1 + 1 + 1 + 1, k, none⟩ u).cell? ⟨p, 3, none⟩ = some (.int .u64 (h.sum : Int)) ∧ (w.setCell ⟨p + 1 + 1 + 1 + 1, k, none⟩ u).cell? ⟨p, 4, none⟩ = some (.int .u64 (h.zc : Int)) ∧ (w.setCell ⟨p + 1 + 1 + 1 + 1, k, none⟩ u).cell? ⟨p, 5, none⟩ = some (.int .u64 (h.cnt : Int)) ∧ (w.setCell ⟨p + 1 + 1 + 1 + 1, k, none⟩ u).cell? ⟨p + 1, 0, none⟩ = some (.int .u64 (f : Int)) ∧ (w.setCell ⟨p + 1 + 1 + 1 + 1, k, none⟩ u).cell? ⟨p + 1 + 1, 0, none⟩ = some (.bool dv) ∧ There13 (w.setCell ⟨p + 1 + 1 + 1 + 1, k, none⟩ u) (p + 1 + 1 + 1 + 1) := by
  obtain ⟨h1, h2, h3, h4, h5, h6⟩ := hh
  have hb : Below (p + 1 + 1 + 1 + 1) w (w.setCell ⟨p + 1 + 1 + 1 + 1, k, none⟩ u) := (Below.refl _ _).setCell (show p + 1 + 1 + 1 + 1 ≤ p + 1 + 1 + 1 + 1 from Nat.le_refl _) _
  exact ⟨(hb.cell (p := ⟨p, 3, none⟩) (show p < _ by omega)).trans h1, (hb.cell (p := ⟨p, 4, none⟩) (show p < _ by omega)).trans h2, (hb.cell (p := ⟨p, 5, none⟩) (show p < _ by omega)).trans h3, (hb.cell (p := ⟨p + 1, 0, none⟩) (show p + 1 < _ by omega)).trans h4, (hb.cell (p := ⟨p + 1 + 1, 0, none⟩) (show p + 1 + 1 < _ by omega)).trans h5, h6.setCell k u⟩
end

theorem keep8_10 {w w' : World} {p f lb lo L C k x : Nat} {dv : Bool} (hlb : lb < p) (hb : Below (p + 1 + 1 + 1 + 1) w w') (hh : w.cell? ⟨p, 10, none⟩ = some (.slice (some ⟨lb, lo, none⟩) L C) ∧ w.cell? ⟨lb, lo + k, none⟩ = some (.int .u64 (x : Int)) ∧ w.cell? ⟨p + 1, 0, none⟩ = some (.int .u64 (f : Int)) ∧ w.cell? ⟨p + 1 + 1, 0, none⟩ = some (.bool dv)) : w'.cell? ⟨p, 10, none⟩ = some (.slice (some ⟨lb, lo, none⟩) L C) ∧ w'.cell? ⟨lb, lo + k, none⟩ = some (.int .u64 (x : Int)) ∧ w'.cell? ⟨p + 1, 0, none⟩ = some (.int .u64 (f : Int)) ∧ w'.cell? ⟨p + 1 + 1, 0, none⟩ = some (.bool dv) := by
  obtain ⟨h3, h4, h5, h6⟩ := hh
  exact ⟨(hb.cell (p := ⟨p, 10, none⟩) (show p < _ by omega)).trans h3, (hb.cell (p := ⟨lb, lo + k, none⟩) (show lb < _ by omega)).trans h4, (hb.cell (p := ⟨p + 1, 0, none⟩) (show p + 1 < _ by omega)).trans h5, (hb.cell (p := ⟨p + 1 + 1, 0, none⟩) (show p + 1 + 1 < _ by omega)).trans h6⟩

theorem scaled1_8_10 {w : World} {p f lb lo L C k x : Nat} {dv : Bool} (hh : w.cell? ⟨p, 10, none⟩ = some (.slice (some ⟨lb, lo, none⟩) L C) ∧ w.cell? ⟨lb, lo + k, none⟩ = some (.int .u64 (x : Int)) ∧ w.cell? ⟨p + 1, 0, none⟩ = some (.int .u64 (f : Int)) ∧ w.cell? ⟨p + 1 + 1, 0, none⟩ = some (.bool dv)) : Calls Tryd.prog 53 #[.int .u64 x, .pointer (some ⟨p + 1 + 1, 0, none⟩), .pointer (some ⟨p + 1, 0, none⟩)] w fun e w' => ∃ y : Nat, e = .returned (.int .u64 y) ∧ ScR dv f x y ∧ ∃ c, w' = dr c w.drew :=
  scaled1_any dv f x (p + 1 + 1) (p + 1) w hh.2.2.2 hh.2.2.1

theorem keep8_11 {w w' : World} {p f lb lo L C k x : Nat} {dv : Bool} (hlb : lb < p) (hb : Below (p + 1 + 1 + 1 + 1) w w') (hh : w.cell? ⟨p, 11, none⟩ = some (.slice (some ⟨lb, lo, none⟩) L C) ∧ w.cell? ⟨lb, lo + k, none⟩ = some (.int .u64 (x : Int)) ∧ w.cell? ⟨p + 1, 0, none⟩ = some (.int .u64 (f : Int)) ∧ w.cell? ⟨p + 1 + 1, 0, none⟩ = some (.bool dv)) : w'.cell? ⟨p, 11, none⟩ = some (.slice (some ⟨lb, lo, none⟩) L C) ∧ w'.cell? ⟨lb, lo + k, none⟩ = some (.int .u64 (x : Int)) ∧ w'.cell? ⟨p + 1, 0, none⟩ = some (.int .u64 (f : Int)) ∧ w'.cell? ⟨p + 1 + 1, 0, none⟩ = some (.bool dv) := by
  obtain ⟨h3, h4, h5, h6⟩ := hh
  exact ⟨(hb.cell (p := ⟨p, 11, none⟩) (show p < _ by omega)).trans h3, (hb.cell (p := ⟨lb, lo + k, none⟩) (show lb < _ by omega)).trans h4, (hb.cell (p := ⟨p + 1, 0, none⟩) (show p + 1 < _ by omega)).trans h5, (hb.cell (p := ⟨p + 1 + 1, 0, none⟩) (show p + 1 + 1 < _ by omega)).trans h6⟩

theorem scaled1_8_11 {w : World} {p f lb lo L C k x : Nat} {dv : Bool} (hh : w.cell? ⟨p, 11, none⟩ = some (.slice (some ⟨lb, lo, none⟩) L C) ∧ w.cell? ⟨lb, lo + k, none⟩ = some (.int .u64 (x : Int)) ∧ w.cell? ⟨p + 1, 0, none⟩ = some (.int .u64 (f : Int)) ∧ w.cell? ⟨p + 1 + 1, 0, none⟩ = some (.bool dv)) : Calls Tryd.prog 53 #[.int .u64 x, .pointer (some ⟨p + 1 + 1, 0, none⟩), .pointer (some ⟨p + 1, 0, none⟩)] w fun e w' => ∃ y : Nat, e = .returned (.int .u64 y) ∧ ScR dv f x y ∧ ∃ c, w' = dr c w.drew :=
  scaled1_any dv f x (p + 1 + 1) (p + 1) w hh.2.2.2 hh.2.2.1

set_option maxRecDepth 100000 in
set_option maxHeartbeats 8000000 in
theorem scaled_any (v1 v2 v3 v4 v5 v6 v7 : Value) (h : Hist) (f : Nat) (dv : Bool) (w : World) (ha : HistAt w w.heap.size v1 v2 v3 v4 v5 v6 v7 h) (hf : Fits h) :
    Calls Tryd.prog 19 #[.agg (histCells h v1 v2 v3 v4 v5 v6 v7), .int .u64 f, .bool dv] w fun e w' => ∃ h' y5 y6, e = .returned (.agg (histCells h' v1 v2 v3 v4 y5 y6 v7)) ∧
      HistAt w' w'.heap.size v1 v2 v3 v4 y5 y6 v7 h' ∧ Scl dv f h h' ∧ Below w.heap.size w w' := by
  unfold histCells
  obtain ⟨a1, c1, rfl, f11, f12⟩ := ha.pos.form
  obtain ⟨a2, c2, rfl, f21, f22⟩ := ha.neg.form
  obtain ⟨a3, c3, rfl, f31, f32⟩ := ha.ups.form
  obtain ⟨a4, c4, rfl, f41, f42⟩ := ha.downs.form
  obtain ⟨a5, c5, rfl, f51, f52⟩ := ha.fups.form
  obtain ⟨a6, c6, rfl, f61, f62⟩ := ha.fdowns.form
  obtain ⟨a7, c7, rfl, f71, f72⟩ := ha.cus.form
  simp only [List.length_map] at ha f51 f61 f71 ⊢
  obtain ⟨q0, q1, q2, q3, q4, qs⟩ := five w (.cells #[.int .u8 h.hint, .int .i32 h.schema, .int .u64 h.thr, .int .u64 h.sum, .int .u64 h.zc, .int .u64 h.cnt, .slice a1 h.pos.length c1, .slice a2 h.neg.length c2, .slice a3 h.ups.length c3, .slice a4 h.downs.length c4, .slice a5 h.fups.length c5, .slice a6 h.fdowns.length c6, .slice a7 h.cus.length c7] 27) (.cells #[.int .u64 (f : Int)] 22) (.cells #[.bool dv] 4) (.cells #[.int .u8 0, .int .i32 0, .int .u64 0, .int .u64 0, .int .u64 0, .int .u64 0, .slice none 0 0, .slice none 0 0, .slice none 0 0, .slice none 0 0, .slice none 0 0, .slice none 0 0, .slice none 0 0] 27) (.cells #[.int .u8 h.hint, .int .i32 h.schema, .int .u64 h.thr, .int .u64 h.sum, .int .u64 h.zc, .int .u64 h.cnt, .slice a1 h.pos.length c1, .slice a2 h.neg.length c2, .slice a3 h.ups.length c3, .slice a4 h.downs.length c4, .slice a5 h.fups.length c5, .slice a6 h.fdowns.length c6, .slice a7 h.cus.length c7] 27)
  have hB0 : Below w.heap.size w (((((w.alloc (.cells #[.int .u8 h.hint, .int .i32 h.schema, .int .u64 h.thr, .int .u64 h.sum, .int .u64 h.zc, .int .u64 h.cnt, .slice a1 h.pos.length c1, .slice a2 h.neg.length c2, .slice a3 h.ups.length c3, .slice a4 h.downs.length c4, .slice a5 h.fups.length c5, .slice a6 h.fdowns.length c6, .slice a7 h.cus.length c7] 27)).alloc (.cells #[.int .u64 (f : Int)] 22)).alloc (.cells #[.bool dv] 4)).alloc (.cells #[.int .u8 0, .int .i32 0, .int .u64 0, .int .u64 0, .int .u64 0, .int .u64 0, .slice none 0 0, .slice none 0 0, .slice none 0 0, .slice none 0 0, .slice none 0 0, .slice none 0 0, .slice none 0 0] 27)).alloc (.cells #[.int .u8 h.hint, .int .i32 h.schema, .int .u64 h.thr, .int .u64 h.sum, .int .u64 h.zc, .int .u64 h.cnt, .slice a1 h.pos.length c1, .slice a2 h.neg.length c2, .slice a3 h.ups.length c3, .slice a4 h.downs.length c4, .slice a5 h.fups.length c5, .slice a6 h.fdowns.length c6, .slice a7 h.cus.length c7] 27)) := (((((Below.refl w.heap.size w).alloc (Nat.le_refl _) _).alloc (by simp) _).alloc (by simp; omega) _).alloc (by simp; omega) _).alloc (by simp; omega) _
  have Q0 := Lib.hid q0
  have Q1 := Lib.hid q1
  have Q2 := Lib.hid q2
  have Q3 := Lib.hid q3
  have Q4 := Lib.hid q4
  have QS := Lib.hid qs
  clear q0 q1 q2 q3 q4 qs
  have hl5 := hf.fups
  have hl6 := hf.fdowns
  go_enter Tryd.func19, Tryd.ntmps19
  go_wp2_with fail
  generalize World.alloc _ _ = W at *
  have hm : W.drew.cell? ⟨w.heap.size, 3, none⟩ = some (.int .u64 (h.sum : Int)) ∧ W.drew.cell? ⟨w.heap.size, 4, none⟩ = some (.int .u64 (h.zc : Int)) ∧ W.drew.cell? ⟨w.heap.size, 5, none⟩ = some (.int .u64 (h.cnt : Int)) ∧ W.drew.cell? ⟨w.heap.size + 1, 0, none⟩ = some (.int .u64 (f : Int)) ∧ W.drew.cell? ⟨w.heap.size + 1 + 1, 0, none⟩ = some (.bool dv) ∧ There13 W.drew (w.heap.size + 1 + 1 + 1 + 1) :=
    ⟨cells_of_block Q0.out 3, cells_of_block Q0.out 4, cells_of_block Q0.out 5, cells_of_block Q1.out 0, cells_of_block Q2.out 0, ⟨_, Q4.out, rfl⟩⟩
  go_region_held3 (fun w' => w'.cell? ⟨w.heap.size, 3, none⟩ = some (.int .u64 (h.sum : Int)) ∧ w'.cell? ⟨w.heap.size, 4, none⟩ = some (.int .u64 (h.zc : Int)) ∧ w'.cell? ⟨w.heap.size, 5, none⟩ = some (.int .u64 (h.cnt : Int)) ∧ w'.cell? ⟨w.heap.size + 1, 0, none⟩ = some (.int .u64 (f : Int)) ∧ w'.cell? ⟨w.heap.size + 1 + 1, 0, none⟩ = some (.bool dv) ∧ There13 w' (w.heap.size + 1 + 1 + 1 + 1)) (first | (with_reducible assumption) | (with_reducible exact keep3_set _ _ (by assumption)) | (with_reducible exact keep3_dr _ (by assumption)) | go_keep)
    (first
      | (go_at_call 53; with_reducible (show Calls _ _ #[.int .u64 (h.sum : Int), _, _] _ _); refine (scaled1_3 (w := _) (p := w.heap.size) (f := f) (h := h) (dv := dv) (by assumption) h.sum).mono ?_; rintro e w' ⟨y1, rfl, hs1, k1, rfl⟩)
      | (go_at_call 53; with_reducible (show Calls _ _ #[.int .u64 (h.cnt : Int), _, _] _ _); refine (scaled1_3 (w := _) (p := w.heap.size) (f := f) (h := h) (dv := dv) (by assumption) h.cnt).mono ?_; rintro e w' ⟨y2, rfl, hs2, k2, rfl⟩)
      | (go_at_call 53; with_reducible (show Calls _ _ #[.int .u64 (h.zc : Int), _, _] _ _); refine (scaled1_3 (w := _) (p := w.heap.size) (f := f) (h := h) (dv := dv) (by assumption) h.zc).mono ?_; rintro e w' ⟨y3, rfl, hs3, k3, rfl⟩; have hz5 := frz W k1 k2 k3 (w.heap.size + 1 + 1 + 1 + 1) 5 Q4.out; have hz4 := frz W k1 k2 k3 (w.heap.size + 1 + 1 + 1 + 1) 4 Q4.out)
      | fail)
  have hqd : (dr k3 (dr k2 (dr k1 W.drew.drew).drew).drew).heap[(w.heap.size + 1 + 1 + 1 + 1)]? = some (.cells #[.int .u8 h.hint, .int .i32 h.schema, .int .u64 h.thr, .int .u64 h.sum, .int .u64 h.zc, .int .u64 h.cnt, .slice a1 h.pos.length c1, .slice a2 h.neg.length c2, .slice a3 h.ups.length c3, .slice a4 h.downs.length c4, .slice a5 h.fups.length c5, .slice a6 h.fdowns.length c6, .slice a7 h.cus.length c7] 27 (0, 0)) := by rw [drs_heap]; exact Q4.out
  have hq := sets_out (.int .u64 (y1 : Int)) (.int .u64 (y2 : Int)) (.int .u64 (y3 : Int)) hqd
  have hb3 := (drs_below W k1 k2 k3 (w.heap.size + 1 + 1 + 1 + 1)).trans (sets_below (dr k3 (dr k2 (dr k1 W.drew.drew).drew).drew) (w.heap.size + 1 + 1 + 1 + 1) (.int .u64 (y1 : Int)) (.int .u64 (y2 : Int)) (.int .u64 (y3 : Int)))
  generalize (((dr k3 (dr k2 (dr k1 W.drew.drew).drew).drew).setCell ⟨(w.heap.size + 1 + 1 + 1 + 1), 3, none⟩ (.int .u64 (y1 : Int))).setCell ⟨(w.heap.size + 1 + 1 + 1 + 1), 5, none⟩ (.int .u64 (y2 : Int))).setCell ⟨(w.heap.size + 1 + 1 + 1 + 1), 4, none⟩ (.int .u64 (y3 : Int)) = W3 at *
  have hT3 : There13 W3 (w.heap.size + 1 + 1 + 1 + 1) := ⟨_, hq, rfl⟩
  have hq4 := sets_nil (.slice none 0 0) (.slice none 0 0) hq
  have hb4 := hb3.trans (sets_below2 W3 (w.heap.size + 1 + 1 + 1 + 1) (.slice none 0 0) (.slice none 0 0))
  have HQ4 := Lib.hid hq4
  have HB4 := Lib.hid hb4
  clear hq4 hb4 hqd hb3 hm
  go_wp2_with fail
  have hq4 := HQ4.out
  have hb4 := HB4.out
  have hs4 : (w.heap.size + 1 + 1 + 1 + 1) + 1 ≤ W3.heap.size := (Array.getElem?_eq_some_iff.1 hq).1
  clear HQ4 HB4 hT3
  have hsW4 := (sets_below2 W3 (w.heap.size + 1 + 1 + 1 + 1) (.slice none 0 0) (.slice none 0 0)).size
  generalize World.setCell _ _ (.slice none 0 0) = W4 at *
  replace hs4 := Nat.le_trans hs4 hsW4
  clear hq hsW4
  go_loopw [9] (fun i wr => ∃ (k : Nat) (us : List Nat) (X : Value), k ≤ h.fups.length ∧ i = .int .i64 k ∧ us.length = k ∧ (∀ j, j < k → ScR dv f (h.fups.getD j 0) (us.getD j 0)) ∧ wr.heap[(w.heap.size + 1 + 1 + 1 + 1)]? = some (.cells #[.int .u8 h.hint, .int .i32 h.schema, .int .u64 h.thr, .int .u64 y1, .int .u64 y3, .int .u64 y2, .slice a1 h.pos.length c1, .slice a2 h.neg.length c2, .slice a3 h.ups.length c3, .slice a4 h.downs.length c4, X, .slice none 0 0, .slice a7 h.cus.length c7] 27 (0, 0)) ∧ wr.ownsRow ((w.heap.size + 1 + 1 + 1 + 1) + 1) 22 1 X k (us.map fun x : Nat => Value.int .u64 x) ∧ Below (w.heap.size + 1 + 1 + 1 + 1) W wr ∧ (w.heap.size + 1 + 1 + 1 + 1) + 1 ≤ wr.heap.size) (fun i _ => h.fups.length - (intOf i).toNat)
  case atStart => exact ⟨0, [], .slice none 0 0, Nat.zero_le _, rfl, rfl, fun j hj => absurd hj (Nat.not_lt_zero _), hq4, World.ownsRow_nil _ _ _ _, hb4, hs4⟩
  case round => as_aux_lemma =>
    obtain ⟨k, us, X, hk, rfl, hlen, hsc, hq, hown, hb, hsz⟩ := hrel
    have g10 : wr.cell? ⟨w.heap.size, 10, none⟩ = some (.slice a5 h.fups.length c5) := (hb.cell (p := ⟨w.heap.size, 10, none⟩) (show w.heap.size < (w.heap.size + 1 + 1 + 1 + 1) by omega)).trans (cells_of_block Q0.out 10)
    by_cases hlt : k < h.fups.length
    · obtain ⟨lb, lo, rfl, hlb1, hlb2, hlc⟩ := (ha.fups.below hB0 (Nat.le_refl _)).at_ (by rw [List.length_map]; omega)
      have e0 := (hb.cell (p := ⟨lb, lo + k, none⟩) (show lb < (w.heap.size + 1 + 1 + 1 + 1) by omega)).trans (hlc k (by rw [List.length_map]; exact hlt))
      rw [List.getElem_map] at e0
      have hx0 : h.fups.getD k 0 = h.fups[k] := by rw [List.getD_eq_getElem?_getD, List.getElem?_eq_getElem hlt]; rfl
      have HX := Lib.hid hx0
      clear hx0 hlc
      generalize h.fups[k] = x at *
      have hI : wr.drew.cell? ⟨w.heap.size, 10, none⟩ = some (.slice (some ⟨lb, lo, none⟩) h.fups.length c5) ∧ wr.drew.cell? ⟨lb, lo + k, none⟩ = some (.int .u64 (x : Int)) ∧ wr.drew.cell? ⟨w.heap.size + 1, 0, none⟩ = some (.int .u64 (f : Int)) ∧ wr.drew.cell? ⟨w.heap.size + 1 + 1, 0, none⟩ = some (.bool dv) := ⟨g10, e0, (hb.cell (p := ⟨w.heap.size + 1, 0, none⟩) (show w.heap.size + 1 < (w.heap.size + 1 + 1 + 1 + 1) by omega)).trans (cells_of_block Q1.out 0), (hb.cell (p := ⟨w.heap.size + 1 + 1, 0, none⟩) (show w.heap.size + 1 + 1 < (w.heap.size + 1 + 1 + 1 + 1) by omega)).trans (cells_of_block Q2.out 0)⟩
      have gx : wr.drew.cell? ⟨(w.heap.size + 1 + 1 + 1 + 1), 10, none⟩ = some X := cells_of_block hq 10
      have HSC := Lib.hid hsc
      have HQ := Lib.hid hq
      have i0 : (0 : Int) ≤ (k : Int) := by omega
      have i1 : (k : Int) < (h.fups.length : Int) := by omega
      have hX : X = .slice none 0 0 ∨ ∃ g c, X = .slice (some ⟨g, 0, none⟩) k c := by rcases hown.2 with ⟨h1, _⟩ | ⟨g, cap, cur, h1, _⟩; exact .inl h1; exact .inr ⟨g, cap, h1⟩
      have hqa := fun (o : Obj) (c : Bool) => (Below.heap_alloc (dr c wr.drew.drew) o (w.heap.size + 1 + 1 + 1 + 1) (by rw [drd_heap]; omega)).trans ((congrArg (fun (a : Array Obj) => a[(w.heap.size + 1 + 1 + 1 + 1)]?) (drd_heap c wr)).trans HQ.out)
      have hkb : k + 1 ≤ 8589934592 := by have := hf.fups; omega
      clear hsc hq e0
      go_wp2_with fail
      have hIg := hI
      obtain ⟨gi1, gi2, gi3, gi4⟩ := hI
      have HK : ∀ (y : Nat) (c : Bool), ∃ (w6 : World) (av : Option Addr) (cv : Nat), AppOk ((dr c wr.drew.drew).alloc (.cells #[.int .u64 (y : Int)] 22)) X (.slice (some ⟨(dr c wr.drew.drew).heap.size, 0, none⟩) 1 1) ∧ apV ((dr c wr.drew.drew).alloc (.cells #[.int .u64 (y : Int)] 22)) X (.slice (some ⟨(dr c wr.drew.drew).heap.size, 0, none⟩) 1 1) = (.slice av (k + 1) cv, w6) ∧
          (dr c wr.drew.drew).cell? ⟨(w.heap.size + 1 + 1 + 1 + 1), 10, none⟩ = some X ∧ ((dr c wr.drew.drew).alloc (.cells #[.int .u64 (y : Int)] 22)).cell? ⟨(w.heap.size + 1 + 1 + 1 + 1), 10, none⟩ = some X ∧ w6.cell? ⟨(w.heap.size + 1 + 1 + 1 + 1), 10, none⟩ = some X ∧ w6.frozen? ⟨(w.heap.size + 1 + 1 + 1 + 1), 10, none⟩ = false ∧
          Hid (w6.heap[(w.heap.size + 1 + 1 + 1 + 1)]? = some (.cells #[.int .u8 h.hint, .int .i32 h.schema, .int .u64 h.thr, .int .u64 y1, .int .u64 y3, .int .u64 y2, .slice a1 h.pos.length c1, .slice a2 h.neg.length c2, .slice a3 h.ups.length c3, .slice a4 h.downs.length c4, X, .slice none 0 0, .slice a7 h.cus.length c7] 27 (0, 0)) ∧ w6.ownsRow ((w.heap.size + 1 + 1 + 1 + 1) + 1) 22 1 (.slice av (k + 1) cv) (k + 1) ((us.map fun x : Nat => Value.int .u64 x) ++ [.int .u64 (y : Int)]) ∧ Below ((w.heap.size + 1 + 1 + 1 + 1) + 1) ((dr c wr.drew.drew).alloc (.cells #[.int .u64 (y : Int)] 22)) w6) := by
        intro y c
        have gk := (cell_dr c wr.drew.drew ⟨(w.heap.size + 1 + 1 + 1 + 1), 10, none⟩).trans gx
        have ga := sc_alloc (by rw [drd_heap]; omega) gk (.cells #[.int .u64 (y : Int)] 22)
        have gnew : ((dr c wr.drew.drew).alloc (.cells #[.int .u64 (y : Int)] 22)).cell? ⟨(dr c wr.drew.drew).heap.size, 0, none⟩ = some (.int .u64 (y : Int)) := cells_of_block (heap_alloc_new (dr c wr.drew.drew) (.cells #[.int .u64 (y : Int)] 22)) 0
        have own1 := (ownsRow_heap (drd_heap c wr) hown).alloc (.cells #[.int .u64 (y : Int)] 22)
        have hsz1 : ((w.heap.size + 1 + 1 + 1 + 1) + 1) ≤ ((dr c wr.drew.drew).alloc (.cells #[.int .u64 (y : Int)] 22)).heap.size := by
          rw [show ((dr c wr.drew.drew).alloc (.cells #[.int .u64 (y : Int)] 22)).heap.size = (dr c wr.drew.drew).heap.size + 1 by simp, drd_heap]; omega
        obtain ⟨vap, w6, hr6, ho6, hg6⟩ := run_append_one _ ((w.heap.size + 1 + 1 + 1 + 1) + 1) X k _ own1 _ (y : Int) gnew hkb hsz1
        obtain ⟨av, cv, rfl⟩ := own_form ho6
        have hbg0 : Below ((w.heap.size + 1 + 1 + 1 + 1) + 1) ((dr c wr.drew.drew).alloc (.cells #[.int .u64 (y : Int)] 22)) w6 := (Below.refl _ _).grown hg6 hsz1 (fun q hq => (own1.lt q hq).1)
        have g6 : w6.cell? ⟨(w.heap.size + 1 + 1 + 1 + 1), 10, none⟩ = some X := (hbg0.cell (p := ⟨(w.heap.size + 1 + 1 + 1 + 1), 10, none⟩) (show (w.heap.size + 1 + 1 + 1 + 1) < ((w.heap.size + 1 + 1 + 1 + 1) + 1) by omega)).trans ga
        have hq6 : w6.heap[(w.heap.size + 1 + 1 + 1 + 1)]? = some (.cells #[.int .u8 h.hint, .int .i32 h.schema, .int .u64 h.thr, .int .u64 y1, .int .u64 y3, .int .u64 y2, .slice a1 h.pos.length c1, .slice a2 h.neg.length c2, .slice a3 h.ups.length c3, .slice a4 h.downs.length c4, X, .slice none 0 0, .slice a7 h.cus.length c7] 27 (0, 0)) := (hbg0.block (w.heap.size + 1 + 1 + 1 + 1) (by omega)).trans (hqa (.cells #[.int .u64 (y : Int)] 22) c)
        exact ⟨w6, av, cv, (apV_eq hr6).1, (apV_eq hr6).2, gk, ga, g6, frz1 hq6, hq6, ho6, hbg0⟩
      have HK' := Lib.hid HK
      clear HK hqa hkb
      go_region_with (first
        | (go_at_call 53; refine (scaled1_8_10 (w := _) (p := w.heap.size) (f := f) (lb := lb) (lo := lo) (L := h.fups.length) (C := c5) (k := k) (x := x) (dv := dv) hIg).mono ?_; rintro e w' ⟨y, rfl, hsy, c, rfl⟩; obtain ⟨w6, av, cv, hao, hap, gk, ga, g6, hz6, HR⟩ := HK'.out y c)
        | fail)
      all_goals
        obtain ⟨hq6, ho6, hbg0⟩ := HR.out
        have hch : ∀ B, B ≤ ((w.heap.size + 1 + 1 + 1 + 1) + 1) → B ≤ wr.heap.size → Below B wr w6 := fun B g1 g2 => ((below_dr (Below.refl B wr).drew.drew c).alloc (by rw [drd_heap]; exact g2) _).trans (hbg0.mono g1)
        have hqn := heap_set (k := 10) (u := .slice av (k + 1) cv) hq6
        rw [set10] at hqn
        have hon : (w6.setCell ⟨(w.heap.size + 1 + 1 + 1 + 1), 10, none⟩ (.slice av (k + 1) cv)).ownsRow ((w.heap.size + 1 + 1 + 1 + 1) + 1) 22 1 (.slice av (k + 1) cv) (k + 1) ((us ++ [y]).map fun x : Nat => Value.int .u64 x) := by
          rw [List.map_append]
          exact ownsRow_setCell_below ho6 (show (w.heap.size + 1 + 1 + 1 + 1) < ((w.heap.size + 1 + 1 + 1 + 1) + 1) by omega) _
        have hbw : Below (w.heap.size + 1 + 1 + 1 + 1) W (w6.setCell ⟨(w.heap.size + 1 + 1 + 1 + 1), 10, none⟩ (.slice av (k + 1) cv)) := (hb.trans (hch (w.heap.size + 1 + 1 + 1 + 1) (by omega) (by omega))).setCell (show (w.heap.size + 1 + 1 + 1 + 1) ≤ (w.heap.size + 1 + 1 + 1 + 1) from Nat.le_refl _) _
        have hsn : (w.heap.size + 1 + 1 + 1 + 1) + 1 ≤ (w6.setCell ⟨(w.heap.size + 1 + 1 + 1 + 1), 10, none⟩ (.slice av (k + 1) cv)).heap.size := by rw [size_set]; have := (hch (w.heap.size + 1 + 1 + 1 + 1) (by omega) (by omega)).size; omega

        have hscn := sc_step hlen HSC.out HX.out hsy
        have R1 := Lib.hid hqn
        have R2 := Lib.hid hon
        have R3 := Lib.hid hbw
        have R4 := Lib.hid hsn
        have R5 := Lib.hid hscn
        clear hq6 ho6 hbg0 hch hqn hon hbw hsn hscn HR hao hap gk ga g6 hz6
        go_wp2_with fail
        go_roundw
        case rel => exact ⟨k + 1, us ++ [y], .slice av (k + 1) cv, by omega, by simp, by simp [hlen], R5.out, R1.out, R2.out, R3.out, R4.out⟩
        case measure => simp [intOf]; omega
    · obtain rfl : k = h.fups.length := by omega
      have hkn : ¬ ((h.fups.length : Int) < (h.fups.length : Int)) := by omega

      have hX : ∃ a c, X = .slice a h.fups.length c := own_form hown
      have hszr : (w.heap.size + 1 + 1 + 1 + 1) + 1 ≤ wr.heap.size := hsz
      have o5 := OwnIn.made hown hszr
      have G6 : wr.cell? ⟨w.heap.size, 11, none⟩ = some (.slice a6 h.fdowns.length c6) := (hb.cell (p := ⟨w.heap.size, 11, none⟩) (show w.heap.size < (w.heap.size + 1 + 1 + 1 + 1) by omega)).trans (cells_of_block Q0.out 11)
      have HSC1 := Lib.hid hsc
      have HQ1 := Lib.hid hq
      have HB1 := Lib.hid hb
      have HO1 := Lib.hid o5
      clear hsc hq hb o5 hown
      go_wp2_with fail
      have hq4 := HQ1.out
      have hb4 := HB1.out
      have hs4 := hszr
      have o5 := HO1.out
      have hlen1 := hlen
      clear HQ1 HB1 HO1 G6 g10 hlen hszr hX hsz
      generalize us = us1 at *
      generalize X = X5 at *
      generalize hm1 : wr.heap.size = m1 at *
      have hm0 : m1 ≤ wr.heap.size := Nat.le_of_eq hm1.symm
      clear hm1
      go_loopw [10] (fun i wr => ∃ (k : Nat) (us : List Nat) (X : Value), k ≤ h.fdowns.length ∧ i = .int .i64 k ∧ us.length = k ∧ (∀ j, j < k → ScR dv f (h.fdowns.getD j 0) (us.getD j 0)) ∧ wr.heap[(w.heap.size + 1 + 1 + 1 + 1)]? = some (.cells #[.int .u8 h.hint, .int .i32 h.schema, .int .u64 h.thr, .int .u64 y1, .int .u64 y3, .int .u64 y2, .slice a1 h.pos.length c1, .slice a2 h.neg.length c2, .slice a3 h.ups.length c3, .slice a4 h.downs.length c4, X5, X, .slice a7 h.cus.length c7] 27 (0, 0)) ∧ wr.ownsRow m1 22 1 X k (us.map fun x : Nat => Value.int .u64 x) ∧ Below (w.heap.size + 1 + 1 + 1 + 1) W wr ∧ (w.heap.size + 1 + 1 + 1 + 1) + 1 ≤ wr.heap.size ∧ OwnIn wr ((w.heap.size + 1 + 1 + 1 + 1) + 1) m1 22 1 X5 h.fups.length (us1.map fun x : Nat => Value.int .u64 x) ∧ m1 ≤ wr.heap.size) (fun i _ => h.fdowns.length - (intOf i).toNat)
      case atStart => exact ⟨0, [], .slice none 0 0, Nat.zero_le _, rfl, rfl, fun j hj => absurd hj (Nat.not_lt_zero _), hq4, World.ownsRow_nil _ _ _ _, hb4, (Nat.le_trans hs4 hm0), o5, hm0⟩
      case round => as_aux_lemma =>
        obtain ⟨k, us, X, hk, rfl, hlen, hsc, hq, hown, hb, hsz, ho5, hm1⟩ := hrel
        have g11 : wr.cell? ⟨w.heap.size, 11, none⟩ = some (.slice a6 h.fdowns.length c6) := (hb.cell (p := ⟨w.heap.size, 11, none⟩) (show w.heap.size < (w.heap.size + 1 + 1 + 1 + 1) by omega)).trans (cells_of_block Q0.out 11)
        by_cases hlt : k < h.fdowns.length
        · obtain ⟨lb, lo, rfl, hlb1, hlb2, hlc⟩ := (ha.fdowns.below hB0 (Nat.le_refl _)).at_ (by rw [List.length_map]; omega)
          have e0 := (hb.cell (p := ⟨lb, lo + k, none⟩) (show lb < (w.heap.size + 1 + 1 + 1 + 1) by omega)).trans (hlc k (by rw [List.length_map]; exact hlt))
          rw [List.getElem_map] at e0
          have hx0 : h.fdowns.getD k 0 = h.fdowns[k] := by rw [List.getD_eq_getElem?_getD, List.getElem?_eq_getElem hlt]; rfl
          have HX := Lib.hid hx0
          clear hx0 hlc
          generalize h.fdowns[k] = x at *
          have hI : wr.drew.cell? ⟨w.heap.size, 11, none⟩ = some (.slice (some ⟨lb, lo, none⟩) h.fdowns.length c6) ∧ wr.drew.cell? ⟨lb, lo + k, none⟩ = some (.int .u64 (x : Int)) ∧ wr.drew.cell? ⟨w.heap.size + 1, 0, none⟩ = some (.int .u64 (f : Int)) ∧ wr.drew.cell? ⟨w.heap.size + 1 + 1, 0, none⟩ = some (.bool dv) := ⟨g11, e0, (hb.cell (p := ⟨w.heap.size + 1, 0, none⟩) (show w.heap.size + 1 < (w.heap.size + 1 + 1 + 1 + 1) by omega)).trans (cells_of_block Q1.out 0), (hb.cell (p := ⟨w.heap.size + 1 + 1, 0, none⟩) (show w.heap.size + 1 + 1 < (w.heap.size + 1 + 1 + 1 + 1) by omega)).trans (cells_of_block Q2.out 0)⟩
          have gx : wr.drew.cell? ⟨(w.heap.size + 1 + 1 + 1 + 1), 11, none⟩ = some X := cells_of_block hq 11
          have HSC := Lib.hid hsc
          have HQ := Lib.hid hq
          have i0 : (0 : Int) ≤ (k : Int) := by omega
          have i1 : (k : Int) < (h.fdowns.length : Int) := by omega
          have hX : X = .slice none 0 0 ∨ ∃ g c, X = .slice (some ⟨g, 0, none⟩) k c := by rcases hown.2 with ⟨h1, _⟩ | ⟨g, cap, cur, h1, _⟩; exact .inl h1; exact .inr ⟨g, cap, h1⟩
          have hqa := fun (o : Obj) (c : Bool) => (Below.heap_alloc (dr c wr.drew.drew) o (w.heap.size + 1 + 1 + 1 + 1) (by rw [drd_heap]; omega)).trans ((congrArg (fun (a : Array Obj) => a[(w.heap.size + 1 + 1 + 1 + 1)]?) (drd_heap c wr)).trans HQ.out)
          have hkb : k + 1 ≤ 8589934592 := by have := hf.fdowns; omega
          clear hsc hq e0
          go_wp2_with fail
          have hIg := hI
          obtain ⟨gi1, gi2, gi3, gi4⟩ := hI
          have HK : ∀ (y : Nat) (c : Bool), ∃ (w6 : World) (av : Option Addr) (cv : Nat), AppOk ((dr c wr.drew.drew).alloc (.cells #[.int .u64 (y : Int)] 22)) X (.slice (some ⟨(dr c wr.drew.drew).heap.size, 0, none⟩) 1 1) ∧ apV ((dr c wr.drew.drew).alloc (.cells #[.int .u64 (y : Int)] 22)) X (.slice (some ⟨(dr c wr.drew.drew).heap.size, 0, none⟩) 1 1) = (.slice av (k + 1) cv, w6) ∧
              (dr c wr.drew.drew).cell? ⟨(w.heap.size + 1 + 1 + 1 + 1), 11, none⟩ = some X ∧ ((dr c wr.drew.drew).alloc (.cells #[.int .u64 (y : Int)] 22)).cell? ⟨(w.heap.size + 1 + 1 + 1 + 1), 11, none⟩ = some X ∧ w6.cell? ⟨(w.heap.size + 1 + 1 + 1 + 1), 11, none⟩ = some X ∧ w6.frozen? ⟨(w.heap.size + 1 + 1 + 1 + 1), 11, none⟩ = false ∧
              Hid (w6.heap[(w.heap.size + 1 + 1 + 1 + 1)]? = some (.cells #[.int .u8 h.hint, .int .i32 h.schema, .int .u64 h.thr, .int .u64 y1, .int .u64 y3, .int .u64 y2, .slice a1 h.pos.length c1, .slice a2 h.neg.length c2, .slice a3 h.ups.length c3, .slice a4 h.downs.length c4, X5, X, .slice a7 h.cus.length c7] 27 (0, 0)) ∧ w6.ownsRow m1 22 1 (.slice av (k + 1) cv) (k + 1) ((us.map fun x : Nat => Value.int .u64 x) ++ [.int .u64 (y : Int)]) ∧ Below m1 ((dr c wr.drew.drew).alloc (.cells #[.int .u64 (y : Int)] 22)) w6) := by
            intro y c
            have gk := (cell_dr c wr.drew.drew ⟨(w.heap.size + 1 + 1 + 1 + 1), 11, none⟩).trans gx
            have ga := sc_alloc (by rw [drd_heap]; omega) gk (.cells #[.int .u64 (y : Int)] 22)
            have gnew : ((dr c wr.drew.drew).alloc (.cells #[.int .u64 (y : Int)] 22)).cell? ⟨(dr c wr.drew.drew).heap.size, 0, none⟩ = some (.int .u64 (y : Int)) := cells_of_block (heap_alloc_new (dr c wr.drew.drew) (.cells #[.int .u64 (y : Int)] 22)) 0
            have own1 := (ownsRow_heap (drd_heap c wr) hown).alloc (.cells #[.int .u64 (y : Int)] 22)
            have hsz1 : m1 ≤ ((dr c wr.drew.drew).alloc (.cells #[.int .u64 (y : Int)] 22)).heap.size := by
              rw [show ((dr c wr.drew.drew).alloc (.cells #[.int .u64 (y : Int)] 22)).heap.size = (dr c wr.drew.drew).heap.size + 1 by simp, drd_heap]; omega
            obtain ⟨vap, w6, hr6, ho6, hg6⟩ := run_append_one _ m1 X k _ own1 _ (y : Int) gnew hkb hsz1
            obtain ⟨av, cv, rfl⟩ := own_form ho6
            have hbg0 : Below m1 ((dr c wr.drew.drew).alloc (.cells #[.int .u64 (y : Int)] 22)) w6 := (Below.refl _ _).grown hg6 hsz1 (fun q hq => (own1.lt q hq).1)
            have g6 : w6.cell? ⟨(w.heap.size + 1 + 1 + 1 + 1), 11, none⟩ = some X := (hbg0.cell (p := ⟨(w.heap.size + 1 + 1 + 1 + 1), 11, none⟩) (show (w.heap.size + 1 + 1 + 1 + 1) < m1 by omega)).trans ga
            have hq6 : w6.heap[(w.heap.size + 1 + 1 + 1 + 1)]? = some (.cells #[.int .u8 h.hint, .int .i32 h.schema, .int .u64 h.thr, .int .u64 y1, .int .u64 y3, .int .u64 y2, .slice a1 h.pos.length c1, .slice a2 h.neg.length c2, .slice a3 h.ups.length c3, .slice a4 h.downs.length c4, X5, X, .slice a7 h.cus.length c7] 27 (0, 0)) := (hbg0.block (w.heap.size + 1 + 1 + 1 + 1) (by omega)).trans (hqa (.cells #[.int .u64 (y : Int)] 22) c)
            exact ⟨w6, av, cv, (apV_eq hr6).1, (apV_eq hr6).2, gk, ga, g6, frz1 hq6, hq6, ho6, hbg0⟩
          have HK' := Lib.hid HK
          clear HK hqa hkb
          go_region_with (first
            | (go_at_call 53; refine (scaled1_8_11 (w := _) (p := w.heap.size) (f := f) (lb := lb) (lo := lo) (L := h.fdowns.length) (C := c6) (k := k) (x := x) (dv := dv) hIg).mono ?_; rintro e w' ⟨y, rfl, hsy, c, rfl⟩; obtain ⟨w6, av, cv, hao, hap, gk, ga, g6, hz6, HR⟩ := HK'.out y c)
            | fail)
          all_goals
            obtain ⟨hq6, ho6, hbg0⟩ := HR.out
            have hch : ∀ B, B ≤ m1 → B ≤ wr.heap.size → Below B wr w6 := fun B g1 g2 => ((below_dr (Below.refl B wr).drew.drew c).alloc (by rw [drd_heap]; exact g2) _).trans (hbg0.mono g1)
            have hqn := heap_set (k := 11) (u := .slice av (k + 1) cv) hq6
            rw [set11] at hqn
            have hon : (w6.setCell ⟨(w.heap.size + 1 + 1 + 1 + 1), 11, none⟩ (.slice av (k + 1) cv)).ownsRow m1 22 1 (.slice av (k + 1) cv) (k + 1) ((us ++ [y]).map fun x : Nat => Value.int .u64 x) := by
              rw [List.map_append]
              exact ownsRow_setCell_below ho6 (show (w.heap.size + 1 + 1 + 1 + 1) < m1 by omega) _
            have hbw : Below (w.heap.size + 1 + 1 + 1 + 1) W (w6.setCell ⟨(w.heap.size + 1 + 1 + 1 + 1), 11, none⟩ (.slice av (k + 1) cv)) := (hb.trans (hch (w.heap.size + 1 + 1 + 1 + 1) (by omega) (by omega))).setCell (show (w.heap.size + 1 + 1 + 1 + 1) ≤ (w.heap.size + 1 + 1 + 1 + 1) from Nat.le_refl _) _
            have hsn : (w.heap.size + 1 + 1 + 1 + 1) + 1 ≤ (w6.setCell ⟨(w.heap.size + 1 + 1 + 1 + 1), 11, none⟩ (.slice av (k + 1) cv)).heap.size := by rw [size_set]; have := (hch (w.heap.size + 1 + 1 + 1 + 1) (by omega) (by omega)).size; omega
            have hxo : OwnIn (w6.setCell ⟨(w.heap.size + 1 + 1 + 1 + 1), 11, none⟩ (.slice av (k + 1) cv)) ((w.heap.size + 1 + 1 + 1 + 1) + 1) m1 22 1 X5 h.fups.length (us1.map fun x : Nat => Value.int .u64 x) := OwnIn.above (ho5.below (hch m1 (Nat.le_refl _) hm1) (Nat.le_refl _)) (a := ⟨(w.heap.size + 1 + 1 + 1 + 1), 11, none⟩) (show (w.heap.size + 1 + 1 + 1 + 1) < (w.heap.size + 1 + 1 + 1 + 1) + 1 by omega) _
            have hxm : m1 ≤ (w6.setCell ⟨(w.heap.size + 1 + 1 + 1 + 1), 11, none⟩ (.slice av (k + 1) cv)).heap.size := by rw [size_set]; exact Nat.le_trans hm1 (hch m1 (Nat.le_refl _) hm1).size
            have R6 := Lib.hid hxo
            have R7 := Lib.hid hxm
            clear hxo hxm
            have hscn := sc_step hlen HSC.out HX.out hsy
            have R1 := Lib.hid hqn
            have R2 := Lib.hid hon
            have R3 := Lib.hid hbw
            have R4 := Lib.hid hsn
            have R5 := Lib.hid hscn
            clear hq6 ho6 hbg0 hch hqn hon hbw hsn hscn HR hao hap gk ga g6 hz6
            go_wp2_with fail
            go_roundw
            case rel => exact ⟨k + 1, us ++ [y], .slice av (k + 1) cv, by omega, by simp, by simp [hlen], R5.out, R1.out, R2.out, R3.out, R4.out, R6.out, R7.out⟩
            case measure => simp [intOf]; omega
        · obtain rfl : k = h.fdowns.length := by omega
          have hkn : ¬ ((h.fdowns.length : Int) < (h.fdowns.length : Int)) := by omega

          have hX : ∃ a c, X = .slice a h.fdowns.length c := own_form hown
          have hX5 : ∃ a c, X5 = .slice a h.fups.length c := own_form ho5.own
          obtain ⟨xa, xc, rfl⟩ := hX
          obtain ⟨ya, yc, rfl⟩ := hX5
          have hcs := cells_of_block hq
          have hc13 : wr.cell? ⟨(w.heap.size + 1 + 1 + 1 + 1), 0, none⟩ = some (.int .u8 h.hint) ∧ wr.cell? ⟨(w.heap.size + 1 + 1 + 1 + 1), 1, none⟩ = some (.int .i32 h.schema) ∧ wr.cell? ⟨(w.heap.size + 1 + 1 + 1 + 1), 2, none⟩ = some (.int .u64 h.thr) ∧ wr.cell? ⟨(w.heap.size + 1 + 1 + 1 + 1), 3, none⟩ = some (.int .u64 y1) ∧ wr.cell? ⟨(w.heap.size + 1 + 1 + 1 + 1), 4, none⟩ = some (.int .u64 y3) ∧ wr.cell? ⟨(w.heap.size + 1 + 1 + 1 + 1), 5, none⟩ = some (.int .u64 y2) ∧ wr.cell? ⟨(w.heap.size + 1 + 1 + 1 + 1), 6, none⟩ = some (.slice a1 h.pos.length c1) ∧ wr.cell? ⟨(w.heap.size + 1 + 1 + 1 + 1), 7, none⟩ = some (.slice a2 h.neg.length c2) ∧ wr.cell? ⟨(w.heap.size + 1 + 1 + 1 + 1), 8, none⟩ = some (.slice a3 h.ups.length c3) ∧ wr.cell? ⟨(w.heap.size + 1 + 1 + 1 + 1), 9, none⟩ = some (.slice a4 h.downs.length c4) ∧ wr.cell? ⟨(w.heap.size + 1 + 1 + 1 + 1), 10, none⟩ = some (.slice ya h.fups.length yc) ∧ wr.cell? ⟨(w.heap.size + 1 + 1 + 1 + 1), 11, none⟩ = some (.slice xa h.fdowns.length xc) ∧ wr.cell? ⟨(w.heap.size + 1 + 1 + 1 + 1), 12, none⟩ = some (.slice a7 h.cus.length c7) := ⟨hcs 0, hcs 1, hcs 2, hcs 3, hcs 4, hcs 5, hcs 6, hcs 7, hcs 8, hcs 9, hcs 10, hcs 11, hcs 12⟩
          have hz3 : wr.heap[(w.heap.size + 1 + 1 + 1)]? = some (.cells #[.int .u8 0, .int .i32 0, .int .u64 0, .int .u64 0, .int .u64 0, .int .u64 0, .slice none 0 0, .slice none 0 0, .slice none 0 0, .slice none 0 0, .slice none 0 0, .slice none 0 0, .slice none 0 0] 27 (0, 0)) := (hb.block (w.heap.size + 1 + 1 + 1) (by omega)).trans Q3.out
          have hone : (#[.int .u8 h.hint, .int .i32 h.schema, .int .u64 h.thr, .int .u64 y1, .int .u64 y3, .int .u64 y2, .slice a1 h.pos.length c1, .slice a2 h.neg.length c2, .slice a3 h.ups.length c3, .slice a4 h.downs.length c4, .slice ya h.fups.length yc, .slice xa h.fdowns.length xc, .slice a7 h.cus.length c7] : Array Value).all (·.oneCell') = true := by simp [Value.oneCell']
          have hF := setRow_heap wr (w.heap.size + 1 + 1 + 1) _ #[.int .u8 h.hint, .int .i32 h.schema, .int .u64 h.thr, .int .u64 y1, .int .u64 y3, .int .u64 y2, .slice a1 h.pos.length c1, .slice a2 h.neg.length c2, .slice a3 h.ups.length c3, .slice a4 h.downs.length c4, .slice ya h.fups.length yc, .slice xa h.fdowns.length xc, .slice a7 h.cus.length c7] _ _ hz3
          have hO := fun k (hk : k ≠ (w.heap.size + 1 + 1 + 1)) => setRow_other wr #[.int .u8 h.hint, .int .i32 h.schema, .int .u64 h.thr, .int .u64 y1, .int .u64 y3, .int .u64 y2, .slice a1 h.pos.length c1, .slice a2 h.neg.length c2, .slice a3 h.ups.length c3, .slice a4 h.downs.length c4, .slice ya h.fups.length yc, .slice xa h.fdowns.length xc, .slice a7 h.cus.length c7] hk
          have hSz := setRow_size wr (w.heap.size + 1 + 1 + 1) #[.int .u8 h.hint, .int .i32 h.schema, .int .u64 h.thr, .int .u64 y1, .int .u64 y3, .int .u64 y2, .slice a1 h.pos.length c1, .slice a2 h.neg.length c2, .slice a3 h.ups.length c3, .slice a4 h.downs.length c4, .slice ya h.fups.length yc, .slice xa h.fdowns.length xc, .slice a7 h.cus.length c7]
          have HF := Lib.hid hF
          have HO := Lib.hid hO
          have HSz := Lib.hid hSz
          have HSC := Lib.hid hsc
          have HOW := Lib.hid hown
          have HO5 := Lib.hid ho5
          have HB := Lib.hid hb
          clear hF hO hSz hsc hq hown ho5 hcs hb
          go_wp2_with (first | (refine wpList_store_row rfl 27 (.tmp 6) (.tmp 68) rfl (w.heap.size + 1 + 1 + 1) #[.int .u8 h.hint, .int .i32 h.schema, .int .u64 h.thr, .int .u64 y1, .int .u64 y3, .int .u64 y2, .slice a1 h.pos.length c1, .slice a2 h.neg.length c2, .slice a3 h.ups.length c3, .slice a4 h.downs.length c4, .slice ya h.fups.length yc, .slice xa h.fdowns.length xc, .slice a7 h.cus.length c7] rfl rfl 27 #[.int .u8 0, .int .i32 0, .int .u64 0, .int .u64 0, .int .u64 0, .int .u64 0, .slice none 0 0, .slice none 0 0, .slice none 0 0, .slice none 0 0, .slice none 0 0, .slice none 0 0, .slice none 0 0] hz3 (by kernel_rfl) rfl hone ?_) | fail)
          have hF := HF.out
          have hO := HO.out
          have hSz := HSz.out
          have hb := HB.out
          generalize wr.setRow _ _ = Fw at *
          have hBG : Below (w.heap.size + 1 + 1 + 1) wr Fw := ⟨hSz.2.1, hSz.2.2.1, hSz.2.2.2, Nat.le_of_eq hSz.1.symm, fun k hk => hO k (by omega)⟩
          have hcf := cells_of_block hF
          have hr : Fw.cell? ⟨(w.heap.size + 1 + 1 + 1), 0, none⟩ = some (.int .u8 h.hint) ∧ Fw.cell? ⟨(w.heap.size + 1 + 1 + 1), 1, none⟩ = some (.int .i32 h.schema) ∧ Fw.cell? ⟨(w.heap.size + 1 + 1 + 1), 2, none⟩ = some (.int .u64 h.thr) ∧ Fw.cell? ⟨(w.heap.size + 1 + 1 + 1), 3, none⟩ = some (.int .u64 y1) ∧ Fw.cell? ⟨(w.heap.size + 1 + 1 + 1), 4, none⟩ = some (.int .u64 y3) ∧ Fw.cell? ⟨(w.heap.size + 1 + 1 + 1), 5, none⟩ = some (.int .u64 y2) ∧ Fw.cell? ⟨(w.heap.size + 1 + 1 + 1), 6, none⟩ = some (.slice a1 h.pos.length c1) ∧ Fw.cell? ⟨(w.heap.size + 1 + 1 + 1), 7, none⟩ = some (.slice a2 h.neg.length c2) ∧ Fw.cell? ⟨(w.heap.size + 1 + 1 + 1), 8, none⟩ = some (.slice a3 h.ups.length c3) ∧ Fw.cell? ⟨(w.heap.size + 1 + 1 + 1), 9, none⟩ = some (.slice a4 h.downs.length c4) ∧ Fw.cell? ⟨(w.heap.size + 1 + 1 + 1), 10, none⟩ = some (.slice ya h.fups.length yc) ∧ Fw.cell? ⟨(w.heap.size + 1 + 1 + 1), 11, none⟩ = some (.slice xa h.fdowns.length xc) ∧ Fw.cell? ⟨(w.heap.size + 1 + 1 + 1), 12, none⟩ = some (.slice a7 h.cus.length c7) := ⟨hcf 0, hcf 1, hcf 2, hcf 3, hcf 4, hcf 5, hcf 6, hcf 7, hcf 8, hcf 9, hcf 10, hcf 11, hcf 12⟩
          have hBw : Below w.heap.size w Fw := (hB0.trans (hb.mono (by omega))).trans (hBG.mono (by omega))
          have hA := (ha.below hBw (Nat.le_refl _)).mono hBw.size (Nat.le_refl _)
          have hok : ∀ k, (w.heap.size + 1 + 1 + 1) + 1 ≤ k → Fw.heap[k]? = wr.heap[k]? := fun k hk => hO k (by omega)
          have I5 := ownsRow_keep hok (by omega) HO5.out.own
          have I6 := ownsRow_keep hok (by have := hm0; omega) HOW.out
          rw [← map_nat] at I5 I6
          have J5 : Ints Fw Fw.heap.size .u64 (.slice ya h.fups.length yc) (us1.map Int.ofNat) := Ints.own I5
          have J6 : Ints Fw Fw.heap.size .u64 (.slice xa h.fdowns.length xc) (us.map Int.ofNat) := Ints.own I6
          refine bodyPost_ret (v := .agg #[.int .u8 h.hint, .int .i32 h.schema, .int .u64 h.thr, .int .u64 y1, .int .u64 y3, .int .u64 y2, .slice a1 h.pos.length c1, .slice a2 h.neg.length c2, .slice a3 h.ups.length c3, .slice a4 h.downs.length c4, .slice ya h.fups.length yc, .slice xa h.fdowns.length xc, .slice a7 h.cus.length c7]) (by simp [results, Tryd.results19, go_sem, hr]) rfl ⟨⟨h.hint, h.schema, h.thr, y1, y3, y2, h.pos, h.neg, h.ups, h.downs, us1, us, h.cus⟩, _, _, rfl, ⟨hA.pos, hA.neg, hA.ups, hA.downs, J5, J6, hA.cus⟩, ⟨hs3, hs2, hs1, hlen1, hlen, HSC1.out, HSC.out, rfl, rfl, ⟨rfl, rfl, rfl, rfl, rfl, rfl⟩⟩, hBw⟩



end Go.Proofs.YtbgkoapnejnfbaaDoor
