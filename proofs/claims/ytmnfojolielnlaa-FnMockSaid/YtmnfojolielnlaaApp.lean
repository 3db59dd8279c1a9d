/-
  append of one element to a slice that the call owns; other slices it owns, of other element types, are kept.
-/
import Derived.Test.YtmnfojolielnlaaAns
namespace Go.Proofs.Ytmnfojolielnlaa
set_option linter.unusedSimpArgs false
set_option linter.unusedVariables false
open Go.RowKit

theorem add_cell (b off j : Nat) : (⟨b, off, none⟩ : Addr).add j = ⟨b, off + j, none⟩ := by
  unfold Addr.add
  split
  · rename_i h; subst h; rfl
  · rfl
theorem cell_of_block {w : World} {g : Nat} {cs : List Value} {t : TypeId} (h : w.heap[g]? = some (.cells cs.toArray t (0, 0))) (j : Nat) : w.cell? ⟨g, j, none⟩ = cs[j]? := by
  simp [World.cell?, h]
theorem not_frozen {w : World} {g : Nat} {cs : Array Value} {t : TypeId} (h : w.heap[g]? = some (.cells cs t (0, 0))) (j : Nat) : w.frozen? ⟨g, j, none⟩ = false := by
  simp [World.frozen?, h]
theorem own_form {w : World} {base size n : Nat} {e : TypeId} {v : Value} {xs : List Value} (h : w.ownsRow base e size v n xs) : ∃ ao cap, v = .slice ao n cap := by
  rcases h.2 with ⟨rfl, rfl⟩ | ⟨g, cap, cur, rfl, _⟩
  · exact ⟨none, 0, rfl⟩
  · exact ⟨_, cap, rfl⟩
theorem own_type {w : World} {base size n : Nat} {e : TypeId} {v : Value} {xs : List Value} (h : w.ownsRow base e size v n xs) {k : Nat} (hk : v.ownBlock = some k) : ∃ cs, w.heap[k]? = some (.cells cs e (0, 0)) := by
  rcases h.2 with ⟨rfl, rfl⟩ | ⟨g, cap, cur, rfl, _, hg, _⟩
  · simp [Value.ownBlock] at hk
  · simp [Value.ownBlock] at hk
    subst hk
    exact ⟨_, hg⟩
/-- what is of another type than the slice's elements is kept -/
theorem grown_keep {w w' : World} {base size n : Nat} {e : TypeId} {v : Value} {xs : List Value} (h : w.ownsRow base e size v n xs) (hg : w.grownBy w' v.ownBlock) {k : Nat} {cs : Array Value} {t : TypeId} {fr : Nat × Nat} (hk : w.heap[k]? = some (.cells cs t fr)) (ht : t ≠ e) : w'.heap[k]? = some (.cells cs t fr) := by
  rw [hg.block k (Array.getElem?_eq_some_iff.1 hk).1 (fun c => ?_)]
  · exact hk
  · obtain ⟨cs', h'⟩ := own_type h c.symm
    rw [hk] at h'
    injection h' with h'
    injection h' with _ h'
    exact ht h'
theorem own_keep {w w' : World} {base size n base2 size2 n2 : Nat} {e e2 : TypeId} {v v2 : Value} {xs xs2 : List Value} (h : w.ownsRow base e size v n xs) (hg : w.grownBy w' v.ownBlock) (h2 : w.ownsRow base2 e2 size2 v2 n2 xs2) (ht : e2 ≠ e) : w'.ownsRow base2 e2 size2 v2 n2 xs2 := by
  obtain ⟨h1, h2⟩ := h2
  refine ⟨h1, ?_⟩
  rcases h2 with h2 | ⟨g, cap, cur, rfl, hb, hh, r⟩
  · exact .inl h2
  · exact .inr ⟨g, cap, cur, rfl, hb, grown_keep h hg hh ht, r⟩
theorem own_alloc {w : World} {base size n : Nat} {e : TypeId} {v : Value} {xs : List Value} (h : w.ownsRow base e size v n xs) (o : Obj) : (w.alloc o).ownsRow base e size v n xs := by
  obtain ⟨h1, h2⟩ := h
  refine ⟨h1, ?_⟩
  rcases h2 with h2 | ⟨g, cap, cur, rfl, hb, hh, r⟩
  · exact .inl h2
  · exact .inr ⟨g, cap, cur, rfl, hb, by rw [Below.heap_alloc _ _ _ (Array.getElem?_eq_some_iff.1 hh).1]; exact hh, r⟩
theorem own_heap {w w' : World} {base size n : Nat} {e : TypeId} {v : Value} {xs : List Value} (hh : w'.heap = w.heap) (h : w.ownsRow base e size v n xs) : w'.ownsRow base e size v n xs := by
  unfold World.ownsRow; rw [hh]; exact h
theorem own_drew {w : World} {base size n : Nat} {e : TypeId} {v : Value} {xs : List Value} (h : w.ownsRow base e size v n xs) : w.drew.ownsRow base e size v n xs := own_heap (w := w) rfl h
theorem own_below {w w' : World} {base size n : Nat} {e : TypeId} {v : Value} {xs : List Value} {B : Nat} (h : w.ownsRow base e size v n xs) (hb : Below B w w') (hB : ∀ g, v.ownBlock = some g → g < B) : w'.ownsRow base e size v n xs := by
  obtain ⟨h1, h2⟩ := h
  refine ⟨h1, ?_⟩
  rcases h2 with h2 | ⟨g, cap, cur, rfl, hg, hh, r⟩
  · exact .inl h2
  · exact .inr ⟨g, cap, cur, rfl, hg, by rw [hb.block g (hB g rfl)]; exact hh, r⟩
theorem own_base {w : World} {base base' size n : Nat} {e : TypeId} {v : Value} {xs : List Value} (h : w.ownsRow base e size v n xs) (hB : base' ≤ base) : w.ownsRow base' e size v n xs := by
  obtain ⟨h1, h2⟩ := h
  refine ⟨h1, ?_⟩
  rcases h2 with h2 | ⟨g, cap, cur, rfl, hg, hh, r⟩
  · exact .inl h2
  · exact .inr ⟨g, cap, cur, rfl, by omega, hh, r⟩
theorem own_set {w : World} {base size n : Nat} {e : TypeId} {v : Value} {xs : List Value} (h : w.ownsRow base e size v n xs) {g j : Nat} {cs : Array Value} {t : TypeId} {fr : Nat × Nat} (hk : w.heap[g]? = some (.cells cs t fr)) (ht : t ≠ e) (u : Value) : (w.setCell ⟨g, j, none⟩ u).ownsRow base e size v n xs := by
  obtain ⟨h1, h2⟩ := h
  refine ⟨h1, ?_⟩
  rcases h2 with h2 | ⟨q, cap, cur, rfl, hb, hh, r⟩
  · exact .inl h2
  · refine .inr ⟨q, cap, cur, rfl, hb, ?_, r⟩
    rw [Below.heap_setCell _ _ _ _ (show q ≠ g from ?_)]
    · exact hh
    · rintro rfl
      rw [hk] at hh
      injection hh with hh
      injection hh with _ hh
      exact ht hh
theorem heap_set {w : World} {g j : Nat} {cs : Array Value} {t : TypeId} {fr : Nat × Nat} (h : w.heap[g]? = some (.cells cs t fr)) (u : Value) : (w.setCell ⟨g, j, none⟩ u).heap[g]? = some (.cells (cs.setIfInBounds j u) t fr) := by
  simp [World.setCell, Array.getElem?_modify, h]
theorem size_set (w : World) (p : Addr) (u : Value) : (w.setCell p u).heap.size = w.heap.size := by simp [World.setCell]
theorem block_alloc {w : World} {k : Nat} {o : Obj} (h : w.heap[k]? = some o) (o' : Obj) : (w.alloc o').heap[k]? = some o := by
  rw [Below.heap_alloc _ _ _ (Array.getElem?_eq_some_iff.1 h).1]; exact h
theorem keep2_alloc {w : World} {b : Nat} {u0 u1 : Value} (h : w.cell? ⟨b, 0, none⟩ = some u0 ∧ w.cell? ⟨b, 1, none⟩ = some u1) (o : Obj) : (w.alloc o).cell? ⟨b, 0, none⟩ = some u0 ∧ (w.alloc o).cell? ⟨b, 1, none⟩ = some u1 :=
  ⟨(((Below.refl w.heap.size w).alloc (Nat.le_refl _) o).cell (p := ⟨b, 0, none⟩) (lt_of_cell h.1).1).trans h.1, (((Below.refl w.heap.size w).alloc (Nat.le_refl _) o).cell (p := ⟨b, 1, none⟩) (lt_of_cell h.2).1).trans h.2⟩

section
variable {ops : Array Oper} {o : Oper} {a : Act} {w : World}
/-- append of one element, whose cells have just been laid: in a region, and in a list of operations -/
theorem run_app (ts te : TypeId) (i0 : TypeInfo) (z : Value) (size bytes : Nat) (ht : Try.prog.underlying ts = some (.slice te)) (hi : Try.prog.info? te = some i0) (hz0 : i0.zero = some z) (hz1 : i0.size = size) (hz2 : i0.bytes = bytes) (hzs : z.cells.size = size) (hsz : 0 < size) (hby : bytes ≤ 65536)
    (base : Nat) (v : Value) (n : Nat) (xs : List Value) (hown : w.ownsRow base te size v n xs) (g : Nat) (cs : List Value) (hl : cs.length = size) (hc : w.heap[g]? = some (.cells cs.toArray te (0, 0))) (hone : ∀ u ∈ cs, u.oneCell' = true) (hn : n < 2147483648) (hbase : base ≤ w.heap.size) :
    ∃ v' w', (Builtin.append_ #[ts, ts] ts #[v, .slice (some ⟨g, 0, none⟩) 1 1]).run Try.prog w = .ok v' w' ∧ w'.ownsRow base te size v' (n + 1) (xs ++ cs) ∧ w.grownBy w' v.ownBlock := by
  obtain ⟨v', w', hr, h2, h3, _⟩ := run_append_own (P := Try.prog) w base ts ts te i0 z size bytes ht hi hz0 hz1 hz2 hzs hsz v n xs hown ⟨g, 0, none⟩ 1 1 cs (by omega) (fun j u hj => by
    rw [add_cell, Nat.zero_add, cell_of_block hc]; exact hj) hone (by unfold maxLen; omega) (by
      have : (n + 1) * bytes ≤ 2147483648 * 65536 := Nat.mul_le_mul (by omega) hby
      omega) hbase
  exact ⟨v', w', hr, h2, h3⟩
theorem step_app {K : Act → World → Prop} {Q : Exit → Act → World → Prop} {E : Prop} (ts te : TypeId) (i0 : TypeInfo) (z : Value) (size bytes : Nat) (hgd : o.guard = none) (x y : Operand)
    (ho : o.op = .call { callee := .builtin .append, args := #[x, y], argTypes := #[ts, ts] }) (hty : o.type = ts)
    (ht : Try.prog.underlying ts = some (.slice te)) (hi : Try.prog.info? te = some i0) (hz0 : i0.zero = some z) (hz1 : i0.size = size) (hz2 : i0.bytes = bytes) (hzs : z.cells.size = size) (hsz : 0 < size) (hby : bytes ≤ 65536)
    (base : Nat) (v : Value) (n : Nat) (xs : List Value) (hx : a.eval x = v) (hown : w.ownsRow base te size v n xs) (g : Nat) (hy : a.eval y = .slice (some ⟨g, 0, none⟩) 1 1) (cs : List Value) (hl : cs.length = size) (hc : w.heap[g]? = some (.cells cs.toArray te (0, 0))) (hone : ∀ u ∈ cs, u.oneCell' = true) (hn : n < 2147483648) (hbase : base ≤ w.heap.size)
    (hK : ∀ v' w', w'.ownsRow base te size v' (n + 1) (xs ++ cs) → w.grownBy w' v.ownBlock → K (a.put o.dst v') w') :
    if Region.wanted o (yielded ops a.tmps) = true then Oper.wp Try.prog o a w K Q else E := by
  have hw : Region.wanted o (yielded ops a.tmps) = true := by simp [Region.wanted, hgd]
  rw [if_pos hw]
  obtain ⟨v', w', hr, h2, h3⟩ := run_app ts te i0 z size bytes ht hi hz0 hz1 hz2 hzs hsz hby base v n xs hown g cs hl hc hone hn hbase
  unfold Oper.wp execOp
  simp only [ho, hty, resolve, invoke, builtin, Sem.run_bind, Sem.run_pure, Result.andThen_ok, List.map_toArray, List.map_cons, List.map_nil, hx, hy, hr]
  exact hK v' w' h2 h3
theorem list_app {rest : List Oper} {Q : Exit → Act → World → Prop} (ts te : TypeId) (i0 : TypeInfo) (z : Value) (size bytes : Nat) (hgd : o.guard = none) (x y : Operand)
    (ho : o.op = .call { callee := .builtin .append, args := #[x, y], argTypes := #[ts, ts] }) (hty : o.type = ts)
    (ht : Try.prog.underlying ts = some (.slice te)) (hi : Try.prog.info? te = some i0) (hz0 : i0.zero = some z) (hz1 : i0.size = size) (hz2 : i0.bytes = bytes) (hzs : z.cells.size = size) (hsz : 0 < size) (hby : bytes ≤ 65536)
    (base : Nat) (v : Value) (n : Nat) (xs : List Value) (hx : a.eval x = v) (hown : w.ownsRow base te size v n xs) (g : Nat) (hy : a.eval y = .slice (some ⟨g, 0, none⟩) 1 1) (cs : List Value) (hl : cs.length = size) (hc : w.heap[g]? = some (.cells cs.toArray te (0, 0))) (hone : ∀ u ∈ cs, u.oneCell' = true) (hn : n < 2147483648) (hbase : base ≤ w.heap.size)
    (h : ∀ v' w', w'.ownsRow base te size v' (n + 1) (xs ++ cs) → w.grownBy w' v.ownBlock → wpList Try.prog ops Q rest (a.put o.dst v') w') : wpList Try.prog ops Q (o :: rest) a w := by
  obtain ⟨v', w', hr, h2, h3⟩ := run_app ts te i0 z size bytes ht hi hz0 hz1 hz2 hzs hsz hby base v n xs hown g cs hl hc hone hn hbase
  refine wpList_plain hgd fun _ hK => ?_
  have hw := h v' w' h2 h3
  unfold Oper.wp execOp
  simp only [ho, hty, resolve, invoke, builtin, Sem.run_bind, Sem.run_pure, Result.andThen_ok, List.map_toArray, List.map_cons, List.map_nil, hx, hy, hr]
  exact hK _ _ hw
end

theorem infoI64 : (Try.prog.info? 2).map (fun i => (i.zero, i.size, i.bytes)) = some (some (.int .i64 0), 1, 8) := by kernel_rfl
theorem infoF64 : (Try.prog.info? 49).map (fun i => (i.zero, i.size, i.bytes)) = some (some (.float .f64 0), 1, 8) := by kernel_rfl
theorem infoAns : (Try.prog.info? 46).map (fun i => (i.zero, i.size, i.bytes)) = some (some (.agg #[.int .i64 0, .int .i64 0, .int .u64 0]), 3, 24) := by kernel_rfl
theorem one3 (a b c : Int) : ∀ u ∈ [Value.int .i64 a, .int .i64 b, .int .u64 c], u.oneCell' = true := by intro u hu; simp at hu; rcases hu with rfl | rfl | rfl <;> rfl

/-- samples; what the mock answers -/
abbrev zs (l : List (Int × Nat)) : List (Int × Int) := l.map fun z => (z.1, (z.2 : Int))
abbrev oneA (z : Int × Nat) : Ans := (1, z.1, (z.2 : Int))
def ansL (l : List (Int × Nat)) (m : Nat) : List Ans := (l.take m).map oneA ++ if l.length < m then [(0, 0, 0)] else []
end Go.Proofs.Ytmnfojolielnlaa
