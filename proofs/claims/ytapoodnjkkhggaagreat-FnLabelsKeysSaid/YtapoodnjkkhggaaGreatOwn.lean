/-
  Slices that the call owns: append of one element; other slices it owns, of other element types, are kept. Worlds that have kept the old blocks.
-/
import Derived.Test.YtapoodnjkkhggaaGreatRows
import Derived.Test.YtapoodnjkkhggaaGreatOpen
import Derived.BigQuiet
import Derived.Deep.RegionHeld3
import Derived.IntWalk
import Derived.Deep.AppendSrc
namespace Go.Proofs.YtapoodnjkkhggaaGreat
set_option linter.unusedSimpArgs false
set_option linter.unusedVariables false
open Go.RowKit

theorem add_cell (b off j : Nat) : (⟨b, off, none⟩ : Addr).add j = ⟨b, off + j, none⟩ := by
  unfold Addr.add
  split
  · rename_i h; subst h; rfl
  · rfl
theorem cell_of_block {w : World} {g : Nat} {cs : List Value} {t : TypeId} (h : w.heap[g]? = some (.cells cs.toArray t (0, 0))) (j : Nat) : w.cell? ⟨g, j, none⟩ = cs[j]? := by
  simp [World.cell?, h]
theorem not_frozen {w : World} {g : Nat} {cs : Array Value} {t : TypeId} (h : w.heap[g]? = some (.cells cs t (0, 0))) (j : Nat) : w.frozen? ⟨g, j, none⟩ = false := by
  simp [World.frozen?, h]
theorem own_form {w : World} {base size n : Nat} {e : TypeId} {v : Value} {xs : List Value} (h : w.ownsRow base e size v n xs) : ∃ ao cap, v = .slice ao n cap := by
  rcases h.2 with ⟨rfl, rfl⟩ | ⟨g, cap, cur, rfl, _⟩
  · exact ⟨none, 0, rfl⟩
  · exact ⟨_, cap, rfl⟩
theorem own_type {w : World} {base size n : Nat} {e : TypeId} {v : Value} {xs : List Value} (h : w.ownsRow base e size v n xs) {k : Nat} (hk : v.ownBlock = some k) : ∃ cs, w.heap[k]? = some (.cells cs e (0, 0)) := by
  rcases h.2 with ⟨rfl, rfl⟩ | ⟨g, cap, cur, rfl, _, hg, _⟩
  · simp [Value.ownBlock] at hk
  · simp [Value.ownBlock] at hk
    subst hk
    exact ⟨_, hg⟩
/-- what is of another type than the slice's elements is kept -/
theorem grown_keep {w w' : World} {base size n : Nat} {e : TypeId} {v : Value} {xs : List Value} (h : w.ownsRow base e size v n xs) (hg : w.grownBy w' v.ownBlock) {k : Nat} {cs : Array Value} {t : TypeId} {fr : Nat × Nat} (hk : w.heap[k]? = some (.cells cs t fr)) (ht : t ≠ e) : w'.heap[k]? = some (.cells cs t fr) := by
  rw [hg.block k (Array.getElem?_eq_some_iff.1 hk).1 (fun c => ?_)]
  · exact hk
  · obtain ⟨cs', h'⟩ := own_type h c.symm
    rw [hk] at h'
    injection h' with h'
    injection h' with _ h'
    exact ht h'
theorem own_keep {w w' : World} {base size n base2 size2 n2 : Nat} {e e2 : TypeId} {v v2 : Value} {xs xs2 : List Value} (h : w.ownsRow base e size v n xs) (hg : w.grownBy w' v.ownBlock) (h2 : w.ownsRow base2 e2 size2 v2 n2 xs2) (ht : e2 ≠ e) : w'.ownsRow base2 e2 size2 v2 n2 xs2 := by
  obtain ⟨h1, h2⟩ := h2
  refine ⟨h1, ?_⟩
  rcases h2 with h2 | ⟨g, cap, cur, rfl, hb, hh, r⟩
  · exact .inl h2
  · exact .inr ⟨g, cap, cur, rfl, hb, grown_keep h hg hh ht, r⟩
theorem own_alloc {w : World} {base size n : Nat} {e : TypeId} {v : Value} {xs : List Value} (h : w.ownsRow base e size v n xs) (o : Obj) : (w.alloc o).ownsRow base e size v n xs := by
  obtain ⟨h1, h2⟩ := h
  refine ⟨h1, ?_⟩
  rcases h2 with h2 | ⟨g, cap, cur, rfl, hb, hh, r⟩
  · exact .inl h2
  · exact .inr ⟨g, cap, cur, rfl, hb, by rw [Below.heap_alloc _ _ _ (Array.getElem?_eq_some_iff.1 hh).1]; exact hh, r⟩
theorem own_heap {w w' : World} {base size n : Nat} {e : TypeId} {v : Value} {xs : List Value} (hh : w'.heap = w.heap) (h : w.ownsRow base e size v n xs) : w'.ownsRow base e size v n xs := by
  unfold World.ownsRow; rw [hh]; exact h
theorem own_drew {w : World} {base size n : Nat} {e : TypeId} {v : Value} {xs : List Value} (h : w.ownsRow base e size v n xs) : w.drew.ownsRow base e size v n xs := own_heap (w := w) rfl h
theorem own_below {w w' : World} {base size n : Nat} {e : TypeId} {v : Value} {xs : List Value} {B : Nat} (h : w.ownsRow base e size v n xs) (hb : Below B w w') (hB : ∀ g, v.ownBlock = some g → g < B) : w'.ownsRow base e size v n xs := by
  obtain ⟨h1, h2⟩ := h
  refine ⟨h1, ?_⟩
  rcases h2 with h2 | ⟨g, cap, cur, rfl, hg, hh, r⟩
  · exact .inl h2
  · exact .inr ⟨g, cap, cur, rfl, hg, by rw [hb.block g (hB g rfl)]; exact hh, r⟩
theorem own_base {w : World} {base base' size n : Nat} {e : TypeId} {v : Value} {xs : List Value} (h : w.ownsRow base e size v n xs) (hB : base' ≤ base) : w.ownsRow base' e size v n xs := by
  obtain ⟨h1, h2⟩ := h
  refine ⟨h1, ?_⟩
  rcases h2 with h2 | ⟨g, cap, cur, rfl, hg, hh, r⟩
  · exact .inl h2
  · exact .inr ⟨g, cap, cur, rfl, by omega, hh, r⟩
theorem own_set {w : World} {base size n : Nat} {e : TypeId} {v : Value} {xs : List Value} (h : w.ownsRow base e size v n xs) {g j : Nat} {cs : Array Value} {t : TypeId} {fr : Nat × Nat} (hk : w.heap[g]? = some (.cells cs t fr)) (ht : t ≠ e) (u : Value) : (w.setCell ⟨g, j, none⟩ u).ownsRow base e size v n xs := by
  obtain ⟨h1, h2⟩ := h
  refine ⟨h1, ?_⟩
  rcases h2 with h2 | ⟨q, cap, cur, rfl, hb, hh, r⟩
  · exact .inl h2
  · refine .inr ⟨q, cap, cur, rfl, hb, ?_, r⟩
    rw [Below.heap_setCell _ _ _ _ (show q ≠ g from ?_)]
    · exact hh
    · rintro rfl
      rw [hk] at hh
      injection hh with hh
      injection hh with _ hh
      exact ht hh
theorem heap_set {w : World} {g j : Nat} {cs : Array Value} {t : TypeId} {fr : Nat × Nat} (h : w.heap[g]? = some (.cells cs t fr)) (u : Value) : (w.setCell ⟨g, j, none⟩ u).heap[g]? = some (.cells (cs.setIfInBounds j u) t fr) := by
  simp [World.setCell, Array.getElem?_modify, h]
theorem size_set (w : World) (p : Addr) (u : Value) : (w.setCell p u).heap.size = w.heap.size := by simp [World.setCell]
theorem block_alloc {w : World} {k : Nat} {o : Obj} (h : w.heap[k]? = some o) (o' : Obj) : (w.alloc o').heap[k]? = some o := by
  rw [Below.heap_alloc _ _ _ (Array.getElem?_eq_some_iff.1 h).1]; exact h
theorem keep2_alloc {w : World} {b : Nat} {u0 u1 : Value} (h : w.cell? ⟨b, 0, none⟩ = some u0 ∧ w.cell? ⟨b, 1, none⟩ = some u1) (o : Obj) : (w.alloc o).cell? ⟨b, 0, none⟩ = some u0 ∧ (w.alloc o).cell? ⟨b, 1, none⟩ = some u1 :=
  ⟨(((Below.refl w.heap.size w).alloc (Nat.le_refl _) o).cell (p := ⟨b, 0, none⟩) (lt_of_cell h.1).1).trans h.1, (((Below.refl w.heap.size w).alloc (Nat.le_refl _) o).cell (p := ⟨b, 1, none⟩) (lt_of_cell h.2).1).trans h.2⟩

section
variable {ops : Array Oper} {o : Oper} {a : Act} {w : World}
/-- append of one element, whose cells have just been laid: in a region, and in a list of operations -/
theorem run_app (ts te : TypeId) (i0 : TypeInfo) (z : Value) (size bytes : Nat) (ht : Tryz.prog.underlying ts = some (.slice te)) (hi : Tryz.prog.info? te = some i0) (hz0 : i0.zero = some z) (hz1 : i0.size = size) (hz2 : i0.bytes = bytes) (hzs : z.cells.size = size) (hsz : 0 < size) (hby : bytes ≤ 65536)
    (base : Nat) (v : Value) (n : Nat) (xs : List Value) (hown : w.ownsRow base te size v n xs) (g : Nat) (cs : List Value) (hl : cs.length = size) (hc : w.heap[g]? = some (.cells cs.toArray te (0, 0))) (hone : ∀ u ∈ cs, u.oneCell' = true) (hn : n < 2147483648) (hbase : base ≤ w.heap.size) :
    ∃ v' w', (Builtin.append_ #[ts, ts] ts #[v, .slice (some ⟨g, 0, none⟩) 1 1]).run Tryz.prog w = .ok v' w' ∧ w'.ownsRow base te size v' (n + 1) (xs ++ cs) ∧ w.grownBy w' v.ownBlock := by
  obtain ⟨v', w', hr, h2, h3, _⟩ := run_append_own (P := Tryz.prog) w base ts ts te i0 z size bytes ht hi hz0 hz1 hz2 hzs hsz v n xs hown ⟨g, 0, none⟩ 1 1 cs (by omega) (fun j u hj => by
    rw [add_cell, Nat.zero_add, cell_of_block hc]; exact hj) hone (by unfold maxLen; omega) (by
      have : (n + 1) * bytes ≤ 2147483648 * 65536 := Nat.mul_le_mul (by omega) hby
      omega) hbase
  exact ⟨v', w', hr, h2, h3⟩
theorem step_app {K : Act → World → Prop} {Q : Exit → Act → World → Prop} {E : Prop} (ts te : TypeId) (i0 : TypeInfo) (z : Value) (size bytes : Nat) (hgd : o.guard = none) (x y : Operand)
    (ho : o.op = .call { callee := .builtin .append, args := #[x, y], argTypes := #[ts, ts] }) (hty : o.type = ts)
    (ht : Tryz.prog.underlying ts = some (.slice te)) (hi : Tryz.prog.info? te = some i0) (hz0 : i0.zero = some z) (hz1 : i0.size = size) (hz2 : i0.bytes = bytes) (hzs : z.cells.size = size) (hsz : 0 < size) (hby : bytes ≤ 65536)
    (base : Nat) (v : Value) (n : Nat) (xs : List Value) (hx : a.eval x = v) (hown : w.ownsRow base te size v n xs) (g : Nat) (hy : a.eval y = .slice (some ⟨g, 0, none⟩) 1 1) (cs : List Value) (hl : cs.length = size) (hc : w.heap[g]? = some (.cells cs.toArray te (0, 0))) (hone : ∀ u ∈ cs, u.oneCell' = true) (hn : n < 2147483648) (hbase : base ≤ w.heap.size)
    (hK : ∀ v' w', w'.ownsRow base te size v' (n + 1) (xs ++ cs) → w.grownBy w' v.ownBlock → K (a.put o.dst v') w') :
    if Region.wanted o (yielded ops a.tmps) = true then Oper.wp Tryz.prog o a w K Q else E := by
  have hw : Region.wanted o (yielded ops a.tmps) = true := by simp [Region.wanted, hgd]
  rw [if_pos hw]
  obtain ⟨v', w', hr, h2, h3⟩ := run_app ts te i0 z size bytes ht hi hz0 hz1 hz2 hzs hsz hby base v n xs hown g cs hl hc hone hn hbase
  unfold Oper.wp execOp
  simp only [ho, hty, resolve, invoke, builtin, Sem.run_bind, Sem.run_pure, Result.andThen_ok, List.map_toArray, List.map_cons, List.map_nil, hx, hy, hr]
  exact hK v' w' h2 h3
theorem list_app {rest : List Oper} {Q : Exit → Act → World → Prop} (ts te : TypeId) (i0 : TypeInfo) (z : Value) (size bytes : Nat) (hgd : o.guard = none) (x y : Operand)
    (ho : o.op = .call { callee := .builtin .append, args := #[x, y], argTypes := #[ts, ts] }) (hty : o.type = ts)
    (ht : Tryz.prog.underlying ts = some (.slice te)) (hi : Tryz.prog.info? te = some i0) (hz0 : i0.zero = some z) (hz1 : i0.size = size) (hz2 : i0.bytes = bytes) (hzs : z.cells.size = size) (hsz : 0 < size) (hby : bytes ≤ 65536)
    (base : Nat) (v : Value) (n : Nat) (xs : List Value) (hx : a.eval x = v) (hown : w.ownsRow base te size v n xs) (g : Nat) (hy : a.eval y = .slice (some ⟨g, 0, none⟩) 1 1) (cs : List Value) (hl : cs.length = size) (hc : w.heap[g]? = some (.cells cs.toArray te (0, 0))) (hone : ∀ u ∈ cs, u.oneCell' = true) (hn : n < 2147483648) (hbase : base ≤ w.heap.size)
    (h : ∀ v' w', w'.ownsRow base te size v' (n + 1) (xs ++ cs) → w.grownBy w' v.ownBlock → wpList Tryz.prog ops Q rest (a.put o.dst v') w') : wpList Tryz.prog ops Q (o :: rest) a w := by
  obtain ⟨v', w', hr, h2, h3⟩ := run_app ts te i0 z size bytes ht hi hz0 hz1 hz2 hzs hsz hby base v n xs hown g cs hl hc hone hn hbase
  refine wpList_plain hgd fun _ hK => ?_
  have hw := h v' w' h2 h3
  unfold Oper.wp execOp
  simp only [ho, hty, resolve, invoke, builtin, Sem.run_bind, Sem.run_pure, Result.andThen_ok, List.map_toArray, List.map_cons, List.map_nil, hx, hy, hr]
  exact hK _ _ hw
end

theorem below_drewN {B : Nat} {a w : World} (h : Below B a w) (q : Nat) : Below B a (w.drewN q) := ⟨h.os, h.tape, h.output, h.size, h.block⟩

theorem own_drewN {w : World} {base size n : Nat} {e : TypeId} {v : Value} {xs : List Value} (h : w.ownsRow base e size v n xs) (q : Nat) : (w.drewN q).ownsRow base e size v n xs := own_heap (w := w) rfl h
theorem keepB_below {w0 w1 : World} {b x y B : Nat} {u0 u1 : Value} (h : w0.cell? ⟨b, x, none⟩ = some u0 ∧ w0.cell? ⟨b, y, none⟩ = some u1) (hb : Below B w0 w1) (hB : b < B) : w1.cell? ⟨b, x, none⟩ = some u0 ∧ w1.cell? ⟨b, y, none⟩ = some u1 :=
  ⟨(hb.cell (p := ⟨b, x, none⟩) hB).trans h.1, (hb.cell (p := ⟨b, y, none⟩) hB).trans h.2⟩
theorem keepB_alloc_drew {w : World} {b x y : Nat} {u0 u1 : Value} (h : w.cell? ⟨b, x, none⟩ = some u0 ∧ w.cell? ⟨b, y, none⟩ = some u1) (o : Obj) : (w.alloc o).drew.cell? ⟨b, x, none⟩ = some u0 ∧ (w.alloc o).drew.cell? ⟨b, y, none⟩ = some u1 :=
  keepB_below h ((Below.refl w.heap.size w).alloc (Nat.le_refl _) o).drew (lt_of_cell h.1).1

theorem keep2_grown {w w' : World} {base size n : Nat} {e : TypeId} {v : Value} {xs : List Value} (h : w.ownsRow base e size v n xs) (hg : w.grownBy w' v.ownBlock) {b : Nat} {cs : List Value} {t : TypeId} (hk : w.heap[b]? = some (.cells cs.toArray t (0, 0))) (ht : t ≠ e) {u0 u1 : Value} (h0 : cs[0]? = some u0) (h1 : cs[1]? = some u1) :
    w'.cell? ⟨b, 0, none⟩ = some u0 ∧ w'.cell? ⟨b, 1, none⟩ = some u1 := by
  have := grown_keep h hg hk ht
  exact ⟨by rw [cell_of_block this, h0], by rw [cell_of_block this, h1]⟩
theorem keep2_alloc_drew {w : World} {b : Nat} {u0 u1 : Value} (h : w.cell? ⟨b, 0, none⟩ = some u0 ∧ w.cell? ⟨b, 1, none⟩ = some u1) (o : Obj) : (w.alloc o).drew.cell? ⟨b, 0, none⟩ = some u0 ∧ (w.alloc o).drew.cell? ⟨b, 1, none⟩ = some u1 := keep2_alloc h o
theorem Sl.up {w w' : World} {size : Nat} {v : Value} {n : Nat} {f : Nat → Value} (h : Sl w w.heap.size size v n f) (hb : Below w.heap.size w w') : Sl w' w'.heap.size size v n f := (h.below hb (Nat.le_refl _)).mono hb.size (Nat.le_refl _)
theorem Pairs.up {w w' : World} {j k : IntKind} {v : Value} {l : List (Int × Int)} (h : Pairs w w.heap.size j k v l) (hb : Below w.heap.size w w') : Pairs w' w'.heap.size j k v l := Sl.up h hb
theorem below_new (w : World) (o : Obj) : Below w.heap.size w (w.alloc o) := (Below.refl _ _).alloc (Nat.le_refl _) o
theorem below_newd (w : World) (o : Obj) : Below w.heap.size w (w.alloc o).drew := (below_new w o).drew
theorem bnx {B : Nat} {w w1 w2 : World} (h : Below B w w1) (h2 : Below w1.heap.size w1 w2) (hB : B ≤ w.heap.size := by exact Nat.le_refl _) : Below B w w2 := h.trans (h2.mono (Nat.le_trans hB h.size))
theorem take_next {α : Type} {l : List α} {k : Nat} (h : k < l.length) : l.take (k + 1) = l.take k ++ [l[k]] := by rw [List.take_add_one, List.getElem?_eq_getElem h]; rfl
theorem Ints.up {w w' : World} {k : IntKind} {v : Value} {l : List Int} (h : Ints w w.heap.size k v l) (hb : Below w.heap.size w w') : Ints w' w'.heap.size k v l := Sl.up h hb
theorem own_empty (w : World) (t : TypeId) (size : Nat) : (w.alloc (.cells #[] t)).ownsRow w.heap.size t size (.slice (some ⟨w.heap.size, 0, none⟩) 0 0) 0 [] :=
  ⟨by simp, .inr ⟨w.heap.size, 0, #[], rfl, Nat.le_refl _, heap_alloc_new w _, Nat.le_refl _, by decide, by simp, by simp⟩⟩

/-- append, whose run is known -/
theorem step_run {ops : Array Oper} {o : Oper} {a : Act} {w : World} {K : Act → World → Prop} {Q : Exit → Act → World → Prop} {E : Prop} (ts te : TypeId) (hgd : o.guard = none) (x y : Operand) (ho : o.op = .call { callee := .builtin .append, args := #[x, y], argTypes := #[ts, te] }) (hty : o.type = ts) {v s v' : Value} {w' : World} (hx : a.eval x = v) (hy : a.eval y = s)
    (hr : (Builtin.append_ #[ts, te] ts #[v, s]).run Tryz.prog w = .ok v' w') (hK : K (a.put o.dst v') w') : if Region.wanted o (yielded ops a.tmps) = true then Oper.wp Tryz.prog o a w K Q else E := by
  have hw : Region.wanted o (yielded ops a.tmps) = true := by simp [Region.wanted, hgd]
  rw [if_pos hw]
  unfold Oper.wp execOp
  simp only [ho, hty, resolve, invoke, builtin, Sem.run_bind, Sem.run_pure, Result.andThen_ok, List.map_toArray, List.map_cons, List.map_nil, hx, hy, hr]
  exact hK
theorem list_run {ops : Array Oper} {o : Oper} {a : Act} {w : World} {rest : List Oper} {Q : Exit → Act → World → Prop} (ts te : TypeId) (hgd : o.guard = none) (x y : Operand) (ho : o.op = .call { callee := .builtin .append, args := #[x, y], argTypes := #[ts, te] }) (hty : o.type = ts) {v s v' : Value} {w' : World} (hx : a.eval x = v) (hy : a.eval y = s)
    (hr : (Builtin.append_ #[ts, te] ts #[v, s]).run Tryz.prog w = .ok v' w') (h : wpList Tryz.prog ops Q rest (a.put o.dst v') w') : wpList Tryz.prog ops Q (o :: rest) a w := by
  refine wpList_plain hgd fun _ hK => ?_
  unfold Oper.wp execOp
  simp only [ho, hty, resolve, invoke, builtin, Sem.run_bind, Sem.run_pure, Result.andThen_ok, List.map_toArray, List.map_cons, List.map_nil, hx, hy, hr]
  exact hK _ _ h

/-- old blocks that do not lie in S are as they were -/
structure Chg (S : Nat → Prop) (w w' : World) : Prop where
  os : w'.os = w.os
  tape : w'.tape = w.tape
  output : w'.output = w.output
  size : w.heap.size ≤ w'.heap.size
  block : ∀ k, k < w.heap.size → ¬ S k → w'.heap[k]? = w.heap[k]?
theorem Chg.refl (S : Nat → Prop) (w : World) : Chg S w w := ⟨rfl, rfl, rfl, Nat.le_refl _, fun _ _ _ => rfl⟩
theorem Chg.trans {S : Nat → Prop} {a b c : World} (h : Chg S a b) (k : Chg S b c) : Chg S a c :=
  ⟨k.os.trans h.os, k.tape.trans h.tape, k.output.trans h.output, Nat.le_trans h.size k.size, fun i hi hn => (k.block i (Nat.lt_of_lt_of_le hi h.size) hn).trans (h.block i hi hn)⟩
theorem Chg.mono {S T : Nat → Prop} {a b : World} (h : Chg S a b) (hm : ∀ k, S k → T k) : Chg T a b := ⟨h.os, h.tape, h.output, h.size, fun k hk hn => h.block k hk fun c => hn (hm k c)⟩
theorem Chg.below {S : Nat → Prop} {a b : World} (h : Chg S a b) (B : Nat) (hB : B ≤ a.heap.size) (hs : ∀ k, k < B → ¬ S k) : Below B a b := ⟨h.os, h.tape, h.output, h.size, fun k hk => h.block k (by omega) (hs k hk)⟩
theorem Chg.ofBelow {B : Nat} {a b : World} (h : Below B a b) : Chg (fun k => B ≤ k) a b := ⟨h.os, h.tape, h.output, h.size, fun k _ hn => h.block k (by omega)⟩
theorem Chg.ofGrown {a b : World} {r : Option Nat} (h : a.grownBy b r) : Chg (fun k => some k = r) a b := ⟨h.os, h.tape, h.output, h.size, fun k hk hn => h.block k hk hn⟩
theorem Chg.alloc {S : Nat → Prop} {a b : World} (h : Chg S a b) (o : Obj) : Chg S a (b.alloc o) :=
  h.trans ⟨rfl, rfl, rfl, by simp, fun k hk _ => Below.heap_alloc b o k hk⟩
theorem Chg.setCell {S : Nat → Prop} {a b : World} (h : Chg S a b) (p : Addr) (hp : S p.block) (u : Value) : Chg S a (b.setCell p u) :=
  h.trans ⟨rfl, rfl, rfl, by simp [World.setCell], fun k hk hn => Below.heap_setCell b p u k fun c => hn (c ▸ hp)⟩
theorem Chg.drew {S : Nat → Prop} {a b : World} (h : Chg S a b) : Chg S a b.drew := ⟨h.os, h.tape, h.output, h.size, h.block⟩
theorem Chg.drewN {S : Nat → Prop} {a b : World} (h : Chg S a b) (q : Nat) : Chg S a (b.drewN q) := ⟨h.os, h.tape, h.output, h.size, h.block⟩
theorem Chg.grown {S : Nat → Prop} {a b c : World} {r : Option Nat} (h : Chg S a b) (hg : b.grownBy c r) (hr : ∀ k, r = some k → S k) : Chg S a c := h.trans ((Chg.ofGrown hg).mono fun k hk => hr k hk.symm)
theorem Chg.calls {S : Nat → Prop} {a b c : World} (h : Chg S a b) (hb : Below b.heap.size b c) : Chg S a c :=
  h.trans ⟨hb.os, hb.tape, hb.output, hb.size, fun k hk _ => hb.block k hk⟩
theorem own_chg {w w' : World} {base size n : Nat} {e : TypeId} {v : Value} {xs : List Value} {S : Nat → Prop} (h : w.ownsRow base e size v n xs) (hc : Chg S w w') (hs : ∀ g, base ≤ g → v.ownBlock = some g → ¬ S g) : w'.ownsRow base e size v n xs := by
  obtain ⟨h1, h2⟩ := h
  refine ⟨h1, ?_⟩
  rcases h2 with h2 | ⟨g, cap, cur, rfl, hg, hh, r⟩
  · exact .inl h2
  · exact .inr ⟨g, cap, cur, rfl, hg, by rw [hc.block g (Array.getElem?_eq_some_iff.1 hh).1 (hs g hg rfl)]; exact hh, r⟩
theorem blk_chg {w w' : World} {S : Nat → Prop} (hc : Chg S w w') {k : Nat} {o : Obj} (h : w.heap[k]? = some o) (hs : ¬ S k) : w'.heap[k]? = some o := by
  rw [hc.block k (Array.getElem?_eq_some_iff.1 h).1 hs]; exact h
theorem cell_chg {w w' : World} {S : Nat → Prop} (hc : Chg S w w') {p : Addr} {v : Value} (h : w.cell? p = some v) (hs : ¬ S p.block) : w'.cell? p = some v := by
  rw [World.cell?_of_block (hc.block p.block (lt_of_cell h).1 hs)]; exact h
/-- a block of the call's own, whole -/
def Blk (w : World) (g : Nat) (cs : List Value) (t : TypeId) : Prop := w.heap[g]? = some (.cells cs.toArray t (0, 0))
theorem Blk.cell {w : World} {g : Nat} {cs : List Value} {t : TypeId} (h : Blk w g cs t) (j : Nat) : w.cell? ⟨g, j, none⟩ = cs[j]? := cell_of_block h j
theorem Blk.free {w : World} {g : Nat} {cs : List Value} {t : TypeId} (h : Blk w g cs t) (j : Nat) : w.frozen? ⟨g, j, none⟩ = false := not_frozen h j
theorem Blk.chg {w w' : World} {g : Nat} {cs : List Value} {t : TypeId} (h : Blk w g cs t) {S : Nat → Prop} (hc : Chg S w w') (hs : ¬ S g) : Blk w' g cs t := blk_chg hc h hs
theorem Blk.set {w : World} {g : Nat} {cs : List Value} {t : TypeId} (h : Blk w g cs t) (j : Nat) (u : Value) : Blk (w.setCell ⟨g, j, none⟩ u) g (cs.set j u) t := by
  have := heap_set (j := j) h u
  unfold Blk
  rw [this]
  simp
theorem Blk.alloc {w : World} {g : Nat} {cs : List Value} {t : TypeId} (h : Blk w g cs t) (o : Obj) : Blk (w.alloc o) g cs t := block_alloc h o
theorem Blk.new (w : World) (cs : List Value) (t : TypeId) : Blk (w.alloc (.cells cs.toArray t)) w.heap.size cs t := heap_alloc_new w _
theorem Blk.drew {w : World} {g : Nat} {cs : List Value} {t : TypeId} (h : Blk w g cs t) : Blk w.drew g cs t := h
theorem Blk.drewN {w : World} {g : Nat} {cs : List Value} {t : TypeId} (h : Blk w g cs t) (q : Nat) : Blk (w.drewN q) g cs t := h
theorem Blk.lt {w : World} {g : Nat} {cs : List Value} {t : TypeId} (h : Blk w g cs t) : g < w.heap.size := (Array.getElem?_eq_some_iff.1 h).1
theorem chg_set (w : World) (g j : Nat) (u : Value) : Chg (fun k => k = g) w (w.setCell ⟨g, j, none⟩ u) := (Chg.refl (fun k => k = g) w).setCell ⟨g, j, none⟩ rfl u
theorem lt_blk {w : World} {k : Nat} {o : Obj} (h : w.heap[k]? = some o) : k < w.heap.size := (Array.getElem?_eq_some_iff.1 h).1
end Go.Proofs.YtapoodnjkkhggaaGreat
