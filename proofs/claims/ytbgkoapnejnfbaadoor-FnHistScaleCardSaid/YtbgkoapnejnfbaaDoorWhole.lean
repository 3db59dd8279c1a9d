/-
  The histograms that data mean: new structs whose slices are new.
-/
import Derived.Test.YtbgkoapnejnfbaaDoorSpans
import Derived.Deep.RegionHeld3
import Derived.Deep.DrawnRows
import Derived.StillTactics
import Derived.Laws.Pointers
namespace Go.Proofs.YtbgkoapnejnfbaaDoor
set_option linter.unusedSimpArgs false
set_option linter.unusedVariables false
open Go.RowKit
attribute [local go_sem ↓] Go.wp_at_zero Go.wp_at_succ

/-- What a histogram as data holds. -/
structure Hist where
  hint : Int
  schema : Int
  thr : Nat
  sum : Nat
  zc : Nat
  cnt : Nat
  pos : List (Int × Int)
  neg : List (Int × Int)
  ups : List Int
  downs : List Int
  fups : List Nat
  fdowns : List Nat
  cus : List Nat

/-- a value that is this histogram, in a world -/
structure HistAt (w : World) (B : Nat) (v1 v2 v3 v4 v5 v6 v7 : Value) (h : Hist) : Prop where
  pos : Pairs w B .i32 .u32 v1 h.pos
  neg : Pairs w B .i32 .u32 v2 h.neg
  ups : Ints w B .i64 v3 h.ups
  downs : Ints w B .i64 v4 h.downs
  fups : Ints w B .u64 v5 (h.fups.map Int.ofNat)
  fdowns : Ints w B .u64 v6 (h.fdowns.map Int.ofNat)
  cus : Ints w B .u64 v7 (h.cus.map Int.ofNat)

structure Fits (h : Hist) : Prop where
  pos : h.pos.length ≤ 2147483647
  neg : h.neg.length ≤ 2147483647
  ups : h.ups.length ≤ 2147483647
  downs : h.downs.length ≤ 2147483647
  fups : h.fups.length ≤ 2147483647
  fdowns : h.fdowns.length ≤ 2147483647
  cus : h.cus.length ≤ 2147483647

theorem HistAt.below {w w' : World} {B B' : Nat} {v1 v2 v3 v4 v5 v6 v7 : Value} {h : Hist} (ha : HistAt w B v1 v2 v3 v4 v5 v6 v7 h) (hb : Below B' w w') (hB : B ≤ B') : HistAt w' B v1 v2 v3 v4 v5 v6 v7 h :=
  ⟨ha.pos.below hb hB, ha.neg.below hb hB, ha.ups.below hb hB, ha.downs.below hb hB, ha.fups.below hb hB, ha.fdowns.below hb hB, ha.cus.below hb hB⟩

/-- the cells of the struct -/
def histCells (h : Hist) (v1 v2 v3 v4 v5 v6 v7 : Value) : Array Value :=
  #[.int .u8 h.hint, .int .i32 h.schema, .int .u64 h.thr, .int .u64 h.sum, .int .u64 h.zc, .int .u64 h.cnt, v1, v2, v3, v4, v5, v6, v7]

theorem ownsRow_below {w w' : World} {base size n : Nat} {e : TypeId} {v : Value} {xs : List Value} {B : Nat} (h : w.ownsRow base e size v n xs) (hb : Below B w w') (hB : ∀ g, v.ownBlock = some g → g < B) : w'.ownsRow base e size v n xs := by
  obtain ⟨h1, h2⟩ := h
  refine ⟨h1, ?_⟩
  rcases h2 with h2 | ⟨g, cap, cur, rfl, hg, hh, r⟩
  · exact .inl h2
  · exact .inr ⟨g, cap, cur, rfl, hg, by rw [hb.block g (hB g rfl)]; exact hh, r⟩

theorem ownsRow_base {w : World} {base base' size n : Nat} {e : TypeId} {v : Value} {xs : List Value} (h : w.ownsRow base e size v n xs) (hB : base' ≤ base) : w.ownsRow base' e size v n xs := by
  obtain ⟨h1, h2⟩ := h
  refine ⟨h1, ?_⟩
  rcases h2 with h2 | ⟨g, cap, cur, rfl, hg, hh, r⟩
  · exact .inl h2
  · exact .inr ⟨g, cap, cur, rfl, by omega, hh, r⟩

theorem add_lit (b off j : Nat) : (⟨b, off, none⟩ : Addr).add j = ⟨b, off + j, none⟩ := by
  unfold Addr.add
  split
  · rename_i h; subst h; rfl
  · rfl

section
variable {P : Program} (w : World)
theorem run_append_empty (t ty e : TypeId) (i : TypeInfo) (ht : P.underlying t = some (.slice e)) (hi : P.info? e = some i) (ao : Option Addr) (cap : Nat) :
    (Builtin.append_ #[t, t] ty #[.slice none 0 0, .slice ao 0 cap]).run P w = .ok (.slice none 0 0) w := by
  cases ao <;> simp [Builtin.append_, run_underlying ht, sizeOf, typeInfo, hi, Builtin.lenOf, Builtin.firstCells, loadCells, loadCellsFrom]
end
/-- append(nil, l...) of whole numbers -/
theorem run_copy (v : Value) (l : List Int) (B : Nat) (w : World) (h : Ints w B .i64 v l) (hl : l.length ≤ 2147483647) :
    ∃ v' w', (Builtin.append_ #[24, 24] 24 #[.slice none 0 0, v]).run Tryd.prog w = .ok v' w' ∧ w'.ownsRow w.heap.size 2 1 v' l.length (l.map (Value.int .i64)) ∧ Below w.heap.size w w' ∧ (v' = .slice none 0 0 ↔ l = []) := by
  obtain ⟨i0, hi, hz0, hz1, hz2⟩ := info_parts infoInt
  obtain ⟨ao, cap, rfl, h1, h2⟩ := h.form
  by_cases hn : l = []
  · subst hn
    refine ⟨.slice none 0 0, w, ?_, World.ownsRow_nil _ _ _ _, Below.refl _ _, by simp⟩
    exact run_append_empty w _ _ _ i0 Tryd.underlying24 hi ao cap
  · have hp : 0 < l.length := List.length_pos_iff.2 hn
    obtain ⟨b, off, rfl, hbB, hBw, hc⟩ := h.at_ hp
    obtain ⟨v', w', hr, ho, hg, hv⟩ := run_append_own (P := Tryd.prog) w w.heap.size 24 24 2 i0 (.int .i64 0) 1 8 Tryd.underlying24 hi hz0 hz1 hz2 rfl (by decide) (.slice none 0 0) 0 [] (World.ownsRow_nil _ _ _ _) ⟨b, off, none⟩ l.length cap (l.map (Value.int .i64)) (by simp)
      (by
        intro j u hu
        rw [List.getElem?_map] at hu
        obtain ⟨x, hx, rfl⟩ := Option.map_eq_some_iff.1 hu
        obtain ⟨hj, rfl⟩ := List.getElem?_eq_some_iff.1 hx
        exact (congrArg w.cell? (add_lit b off j)).trans (hc j hj))
      (by intro u hu; obtain ⟨x, _, rfl⟩ := List.mem_map.1 hu; rfl) (by unfold maxLen; omega) (by omega) (Nat.le_refl _)
    refine ⟨v', w', hr, by simpa using ho, (Below.refl _ _).grown hg (Nat.le_refl _) (fun q hq => by simp [Value.ownBlock] at hq), ?_⟩
    rw [hv]
    simp [hn]
/-! whole -/
theorem step_copy {ops : Array Oper} {o : Oper} {a : Act} {K : Act → World → Prop} {Q : Exit → Act → World → Prop} {E : Prop} {w : World} (hgd : o.guard = none) (x : Operand)
    (ho : o.op = .call { callee := .builtin .append, args := #[.const (.slice none 0 0), x], argTypes := #[24, 24] }) (hty : o.type = 24)
    (v : Value) (l : List Int) (B : Nat) (hx : a.eval x = v) (h : Ints w B .i64 v l) (hl : l.length ≤ 2147483647)
    (hK : ∀ v' w', w'.ownsRow w.heap.size 2 1 v' l.length (l.map (Value.int .i64)) → Below w.heap.size w w' → (v' = .slice none 0 0 ↔ l = []) → K (a.put o.dst v') w') :
    if Region.wanted o (yielded ops a.tmps) = true then Oper.wp Tryd.prog o a w K Q else E := by
  have hw : Region.wanted o (yielded ops a.tmps) = true := by simp [Region.wanted, hgd]
  rw [if_pos hw]
  obtain ⟨v', w', hr, h2, h3, h4⟩ := run_copy v l B w h hl
  unfold Oper.wp execOp
  have hc : a.eval (.const (.slice none 0 0)) = .slice none 0 0 := rfl
  simp only [ho, hty, resolve, invoke, builtin, Sem.run_bind, Sem.run_pure, Result.andThen_ok, List.map_toArray, List.map_cons, List.map_nil, hx, hc, hr]
  exact hK v' w' h2 h3 h4

/-- what the call owns, its block between two bounds -/
structure OwnIn (w : World) (lo hi : Nat) (e : TypeId) (size : Nat) (v : Value) (n : Nat) (xs : List Value) : Prop where
  le : lo ≤ hi
  own : w.ownsRow lo e size v n xs
  top : ∀ g, v.ownBlock = some g → g < hi

theorem OwnIn.below {w w' : World} {lo hi size n B : Nat} {e : TypeId} {v : Value} {xs : List Value} (h : OwnIn w lo hi e size v n xs) (hb : Below B w w') (hB : hi ≤ B) : OwnIn w' lo hi e size v n xs :=
  ⟨h.le, ownsRow_below h.own hb fun g hg => Nat.lt_of_lt_of_le (h.top g hg) hB, h.top⟩
theorem OwnIn.lower {w : World} {lo lo' hi size n : Nat} {e : TypeId} {v : Value} {xs : List Value} (h : OwnIn w lo hi e size v n xs) (hl : lo' ≤ lo) : OwnIn w lo' hi e size v n xs :=
  ⟨Nat.le_trans hl h.le, ownsRow_base h.own hl, h.top⟩
theorem OwnIn.made {w' : World} {lo size n : Nat} {e : TypeId} {v : Value} {xs : List Value} (h : w'.ownsRow lo e size v n xs) (hs : lo ≤ w'.heap.size) : OwnIn w' lo w'.heap.size e size v n xs :=
  ⟨hs, h, fun g hg => (h.lt g hg).2⟩

theorem own_form {w : World} {base size n : Nat} {e : TypeId} {v : Value} {xs : List Value} (h : w.ownsRow base e size v n xs) : ∃ ao cap, v = .slice ao n cap := by
  rcases h.2 with ⟨rfl, rfl⟩ | ⟨g, cap, cur, rfl, _⟩
  · exact ⟨none, 0, rfl⟩
  · exact ⟨_, cap, rfl⟩

/-- the slices of a new histogram -/
structure Own5 (w : World) (lo hi : Nat) (tb : TypeId) (x1 x2 x3 x4 x5 : Value) (p n : List (Int × Int)) (u d : List Value) (c : List Nat) : Prop where
  ex : ∃ s1 s2 s3 s4, OwnIn w lo s1 84 2 x1 p.length (flat .i32 .u32 p) ∧ OwnIn w s1 s2 84 2 x2 n.length (flat .i32 .u32 n) ∧
    OwnIn w s2 s3 tb 1 x3 u.length u ∧ OwnIn w s3 s4 tb 1 x4 d.length d ∧ OwnIn w s4 hi 67 1 x5 c.length (c.map (Value.float .f64))
  nil : x5 = .slice none 0 0 ↔ c = []

/-- the cells of one block, kept -/
theorem keep11 {w w' : World} {B b : Nat} (hb : Below B w w') (hlt : b < B) {u0 u1 u2 u3 u4 u5 u6 u7 u8 u9 u10 : Value}
    (h : w.cell? ⟨b, 0, none⟩ = some u0 ∧ w.cell? ⟨b, 1, none⟩ = some u1 ∧ w.cell? ⟨b, 2, none⟩ = some u2 ∧ w.cell? ⟨b, 3, none⟩ = some u3 ∧ w.cell? ⟨b, 4, none⟩ = some u4 ∧ w.cell? ⟨b, 5, none⟩ = some u5 ∧ w.cell? ⟨b, 6, none⟩ = some u6 ∧ w.cell? ⟨b, 7, none⟩ = some u7 ∧ w.cell? ⟨b, 8, none⟩ = some u8 ∧ w.cell? ⟨b, 9, none⟩ = some u9 ∧ w.cell? ⟨b, 12, none⟩ = some u10) :
    w'.cell? ⟨b, 0, none⟩ = some u0 ∧ w'.cell? ⟨b, 1, none⟩ = some u1 ∧ w'.cell? ⟨b, 2, none⟩ = some u2 ∧ w'.cell? ⟨b, 3, none⟩ = some u3 ∧ w'.cell? ⟨b, 4, none⟩ = some u4 ∧ w'.cell? ⟨b, 5, none⟩ = some u5 ∧ w'.cell? ⟨b, 6, none⟩ = some u6 ∧ w'.cell? ⟨b, 7, none⟩ = some u7 ∧ w'.cell? ⟨b, 8, none⟩ = some u8 ∧ w'.cell? ⟨b, 9, none⟩ = some u9 ∧ w'.cell? ⟨b, 12, none⟩ = some u10 :=
  ⟨(hb.cell (p := ⟨b, 0, none⟩) hlt).trans h.1, (hb.cell (p := ⟨b, 1, none⟩) hlt).trans h.2.1, (hb.cell (p := ⟨b, 2, none⟩) hlt).trans h.2.2.1, (hb.cell (p := ⟨b, 3, none⟩) hlt).trans h.2.2.2.1, (hb.cell (p := ⟨b, 4, none⟩) hlt).trans h.2.2.2.2.1, (hb.cell (p := ⟨b, 5, none⟩) hlt).trans h.2.2.2.2.2.1, (hb.cell (p := ⟨b, 6, none⟩) hlt).trans h.2.2.2.2.2.2.1, (hb.cell (p := ⟨b, 7, none⟩) hlt).trans h.2.2.2.2.2.2.2.1, (hb.cell (p := ⟨b, 8, none⟩) hlt).trans h.2.2.2.2.2.2.2.2.1, (hb.cell (p := ⟨b, 9, none⟩) hlt).trans h.2.2.2.2.2.2.2.2.2.1, (hb.cell (p := ⟨b, 12, none⟩) hlt).trans h.2.2.2.2.2.2.2.2.2.2⟩

set_option maxRecDepth 100000 in
set_option maxHeartbeats 4000000 in
theorem whole_any (v1 v2 v3 v4 v5 v6 v7 : Value) (h : Hist) (w : World) (ha : HistAt w w.heap.size v1 v2 v3 v4 v5 v6 v7 h) (hf : Fits h) :
    Calls Tryd.prog 33 #[.agg (histCells h v1 v2 v3 v4 v5 v6 v7)] w fun e w' => ∃ b x1 x2 x3 x4 x5, e = .returned (.pointer (some ⟨b, 0, none⟩)) ∧ w'.heap[b]? = some (.cells #[.int .u8 h.hint, .int .i32 h.schema, .float .f64 h.thr, .int .u64 h.zc, .int .u64 h.cnt, .float .f64 h.sum, x1, x2, x3, x4, x5] 96 (0, 0)) ∧
      Own5 w' w.heap.size b 2 x1 x2 x3 x4 x5 h.pos h.neg (h.ups.map (Value.int .i64)) (h.downs.map (Value.int .i64)) h.cus ∧ Below w.heap.size w w' := by
  unfold histCells
  go_enter Tryd.func33, Tryd.ntmps33
  go_wp2_with fail
  have hB0 := ((Below.refl w.heap.size w).alloc (Nat.le_refl _) (.cells (histCells h v1 v2 v3 v4 v5 v6 v7) 27)).drew
  have hc : (w.alloc (.cells (histCells h v1 v2 v3 v4 v5 v6 v7) 27)).drew.cell? ⟨w.heap.size, 0, none⟩ = some (.int .u8 h.hint) ∧ (w.alloc (.cells (histCells h v1 v2 v3 v4 v5 v6 v7) 27)).drew.cell? ⟨w.heap.size, 1, none⟩ = some (.int .i32 h.schema) ∧ (w.alloc (.cells (histCells h v1 v2 v3 v4 v5 v6 v7) 27)).drew.cell? ⟨w.heap.size, 2, none⟩ = some (.int .u64 h.thr) ∧ (w.alloc (.cells (histCells h v1 v2 v3 v4 v5 v6 v7) 27)).drew.cell? ⟨w.heap.size, 3, none⟩ = some (.int .u64 h.sum) ∧ (w.alloc (.cells (histCells h v1 v2 v3 v4 v5 v6 v7) 27)).drew.cell? ⟨w.heap.size, 4, none⟩ = some (.int .u64 h.zc) ∧ (w.alloc (.cells (histCells h v1 v2 v3 v4 v5 v6 v7) 27)).drew.cell? ⟨w.heap.size, 5, none⟩ = some (.int .u64 h.cnt) ∧ (w.alloc (.cells (histCells h v1 v2 v3 v4 v5 v6 v7) 27)).drew.cell? ⟨w.heap.size, 6, none⟩ = some (v1) ∧ (w.alloc (.cells (histCells h v1 v2 v3 v4 v5 v6 v7) 27)).drew.cell? ⟨w.heap.size, 7, none⟩ = some (v2) ∧ (w.alloc (.cells (histCells h v1 v2 v3 v4 v5 v6 v7) 27)).drew.cell? ⟨w.heap.size, 8, none⟩ = some (v3) ∧ (w.alloc (.cells (histCells h v1 v2 v3 v4 v5 v6 v7) 27)).drew.cell? ⟨w.heap.size, 9, none⟩ = some (v4) ∧ (w.alloc (.cells (histCells h v1 v2 v3 v4 v5 v6 v7) 27)).drew.cell? ⟨w.heap.size, 12, none⟩ = some (v7) := by simp [histCells]
  have hs0 : w.heap.size < (w.alloc (.cells (histCells h v1 v2 v3 v4 v5 v6 v7) 27)).drew.heap.size := by simp
  unfold histCells at hB0 hc hs0
  generalize hb : w.heap.size = b at hc
  generalize w.alloc _ = W at *
  subst hb

  go_region_held3 (fun w' => w'.cell? ⟨w.heap.size, 0, none⟩ = some (.int .u8 h.hint) ∧ w'.cell? ⟨w.heap.size, 1, none⟩ = some (.int .i32 h.schema) ∧ w'.cell? ⟨w.heap.size, 2, none⟩ = some (.int .u64 h.thr) ∧ w'.cell? ⟨w.heap.size, 3, none⟩ = some (.int .u64 h.sum) ∧ w'.cell? ⟨w.heap.size, 4, none⟩ = some (.int .u64 h.zc) ∧ w'.cell? ⟨w.heap.size, 5, none⟩ = some (.int .u64 h.cnt) ∧ w'.cell? ⟨w.heap.size, 6, none⟩ = some (v1) ∧ w'.cell? ⟨w.heap.size, 7, none⟩ = some (v2) ∧ w'.cell? ⟨w.heap.size, 8, none⟩ = some (v3) ∧ w'.cell? ⟨w.heap.size, 9, none⟩ = some (v4) ∧ w'.cell? ⟨w.heap.size, 12, none⟩ = some (v7)) (first | assumption | exact keep11 hb5 (by omega) (by assumption) | exact keep11 hb4 (by omega) (by assumption) | exact keep11 hb3 (by omega) (by assumption) | exact keep11 hb2 (by omega) (by assumption) | exact keep11 hb1 (by omega) (by assumption) | go_keep)
    (first
      | (go_at_call 47; refine (float_any _ _).mono ?_; rintro e w' ⟨rfl, rfl⟩)
      | (go_at_call 79; with_reducible (show Calls _ _ #[v1] _ _); refine (spans_any v1 h.pos w.heap.size _ (ha.pos.below hB0 (Nat.le_refl _)) hf.pos).mono ?_; rintro e w1 ⟨x1, rfl, ho1, hb1, hn1⟩; obtain ⟨a1, c1, rfl⟩ := own_form ho1; have hB1 := hB0.trans (hb1.mono hB0.size); have hz1 := hb1.size; have o1 := OwnIn.made ho1 hz1)
      | (go_at_call 79; with_reducible (show Calls _ _ #[v2] _ _); refine (spans_any v2 h.neg w.heap.size _ (ha.neg.below hB1 (Nat.le_refl _)) hf.neg).mono ?_; rintro e w2 ⟨x2, rfl, ho2, hb2, hn2⟩; obtain ⟨a2, c2, rfl⟩ := own_form ho2; have hB2 := hB1.trans (hb2.mono hB1.size); have hz2 := hb2.size; have o2 := OwnIn.made ho2 hz2; replace o1 := o1.below hb2 (by omega))
      | (refine step_copy (by rfl) (.tmp 24) (by rfl) (by rfl) v3 h.ups _ (by rfl) (ha.ups.below hB2 (Nat.le_refl _)) hf.ups ?_; intro x3 w3 ho3 hb3 hn3; obtain ⟨a3, c3, rfl⟩ := own_form ho3; have hB3 := hB2.trans (hb3.mono hB2.size); have hz3 := hb3.size; have o3 := OwnIn.made ho3 hz3; replace o1 := o1.below hb3 (by omega); replace o2 := o2.below hb3 (by omega))
      | (refine step_copy (by rfl) (.tmp 27) (by rfl) (by rfl) v4 h.downs _ (by rfl) (ha.downs.below hB3 (Nat.le_refl _)) hf.downs ?_; intro x4 w4 ho4 hb4 hn4; obtain ⟨a4, c4, rfl⟩ := own_form ho4; have hB4 := hB3.trans (hb4.mono hB3.size); have hz4 := hb4.size; have o4 := OwnIn.made ho4 hz4; replace o1 := o1.below hb4 (by omega); replace o2 := o2.below hb4 (by omega); replace o3 := o3.below hb4 (by omega))
      | (go_at_call 80; with_reducible (show Calls _ _ #[v7] _ _); refine (floats_any v7 h.cus w.heap.size _ (ha.cus.below hB4 (Nat.le_refl _)) hf.cus).mono ?_; rintro e w5 ⟨x5, rfl, ho5, hb5, hn5⟩; obtain ⟨a5, c5, rfl⟩ := own_form ho5; have hB5 := hB4.trans (hb5.mono hB4.size); have hz5 := hb5.size; have o5 := OwnIn.made ho5 hz5; replace o1 := o1.below hb5 (by omega); replace o2 := o2.below hb5 (by omega); replace o3 := o3.below hb5 (by omega); replace o4 := o4.below hb5 (by omega)))
  go_wp2
  go_ret
  have hA := (Below.refl w5.heap.size w5).alloc (Nat.le_refl _) (.cells #[.int .u8 h.hint, .int .i32 h.schema, .float .f64 h.thr, .int .u64 h.zc, .int .u64 h.cnt, .float .f64 h.sum, .slice a1 h.pos.length c1, .slice a2 h.neg.length c2, .slice a3 h.ups.length c3, .slice a4 h.downs.length c4, .slice a5 h.cus.length c5] 96)
  have hA' := hB5.alloc hB5.size (.cells #[.int .u8 h.hint, .int .i32 h.schema, .float .f64 h.thr, .int .u64 h.zc, .int .u64 h.cnt, .float .f64 h.sum, .slice a1 h.pos.length c1, .slice a2 h.neg.length c2, .slice a3 h.ups.length c3, .slice a4 h.downs.length c4, .slice a5 h.cus.length c5] 96)
  refine ⟨w5.heap.size, _, _, _, _, _, rfl, heap_alloc_new w5 _, ⟨⟨w1.heap.size, w2.heap.size, w3.heap.size, w4.heap.size, (o1.lower (by omega)).below hA (by omega), o2.below hA (by omega), ?_, ?_, o5.below hA (Nat.le_refl _)⟩, hn5⟩, hA'⟩
  · rw [List.length_map]; exact o3.below hA (by omega)
  · rw [List.length_map]; exact o4.below hA (by omega)

/-- the cells of one block, kept -/
theorem keep11b {w w' : World} {B b : Nat} (hb : Below B w w') (hlt : b < B) {u0 u1 u2 u3 u4 u5 u6 u7 u8 u9 u10 : Value}
    (h : w.cell? ⟨b, 0, none⟩ = some u0 ∧ w.cell? ⟨b, 1, none⟩ = some u1 ∧ w.cell? ⟨b, 2, none⟩ = some u2 ∧ w.cell? ⟨b, 3, none⟩ = some u3 ∧ w.cell? ⟨b, 4, none⟩ = some u4 ∧ w.cell? ⟨b, 5, none⟩ = some u5 ∧ w.cell? ⟨b, 6, none⟩ = some u6 ∧ w.cell? ⟨b, 7, none⟩ = some u7 ∧ w.cell? ⟨b, 10, none⟩ = some u8 ∧ w.cell? ⟨b, 11, none⟩ = some u9 ∧ w.cell? ⟨b, 12, none⟩ = some u10) :
    w'.cell? ⟨b, 0, none⟩ = some u0 ∧ w'.cell? ⟨b, 1, none⟩ = some u1 ∧ w'.cell? ⟨b, 2, none⟩ = some u2 ∧ w'.cell? ⟨b, 3, none⟩ = some u3 ∧ w'.cell? ⟨b, 4, none⟩ = some u4 ∧ w'.cell? ⟨b, 5, none⟩ = some u5 ∧ w'.cell? ⟨b, 6, none⟩ = some u6 ∧ w'.cell? ⟨b, 7, none⟩ = some u7 ∧ w'.cell? ⟨b, 10, none⟩ = some u8 ∧ w'.cell? ⟨b, 11, none⟩ = some u9 ∧ w'.cell? ⟨b, 12, none⟩ = some u10 :=
  ⟨(hb.cell (p := ⟨b, 0, none⟩) hlt).trans h.1, (hb.cell (p := ⟨b, 1, none⟩) hlt).trans h.2.1, (hb.cell (p := ⟨b, 2, none⟩) hlt).trans h.2.2.1, (hb.cell (p := ⟨b, 3, none⟩) hlt).trans h.2.2.2.1, (hb.cell (p := ⟨b, 4, none⟩) hlt).trans h.2.2.2.2.1, (hb.cell (p := ⟨b, 5, none⟩) hlt).trans h.2.2.2.2.2.1, (hb.cell (p := ⟨b, 6, none⟩) hlt).trans h.2.2.2.2.2.2.1, (hb.cell (p := ⟨b, 7, none⟩) hlt).trans h.2.2.2.2.2.2.2.1, (hb.cell (p := ⟨b, 10, none⟩) hlt).trans h.2.2.2.2.2.2.2.2.1, (hb.cell (p := ⟨b, 11, none⟩) hlt).trans h.2.2.2.2.2.2.2.2.2.1, (hb.cell (p := ⟨b, 12, none⟩) hlt).trans h.2.2.2.2.2.2.2.2.2.2⟩

set_option maxRecDepth 100000 in
set_option maxHeartbeats 4000000 in
theorem broken_any (v1 v2 v3 v4 v5 v6 v7 : Value) (h : Hist) (w : World) (ha : HistAt w w.heap.size v1 v2 v3 v4 v5 v6 v7 h) (hf : Fits h) :
    Calls Tryd.prog 31 #[.agg (histCells h v1 v2 v3 v4 v5 v6 v7)] w fun e w' => ∃ b x1 x2 x3 x4 x5, e = .returned (.pointer (some ⟨b, 0, none⟩)) ∧ w'.heap[b]? = some (.cells #[.int .u8 h.hint, .int .i32 h.schema, .float .f64 h.thr, .float .f64 h.zc, .float .f64 h.cnt, .float .f64 h.sum, x1, x2, x3, x4, x5] 89 (0, 0)) ∧
      Own5 w' w.heap.size b 67 x1 x2 x3 x4 x5 h.pos h.neg (h.fups.map (Value.float .f64)) (h.fdowns.map (Value.float .f64)) h.cus ∧ Below w.heap.size w w' := by
  unfold histCells
  go_enter Tryd.func31, Tryd.ntmps31
  go_wp2_with fail
  have hB0 := ((Below.refl w.heap.size w).alloc (Nat.le_refl _) (.cells (histCells h v1 v2 v3 v4 v5 v6 v7) 27)).drew
  have hc : (w.alloc (.cells (histCells h v1 v2 v3 v4 v5 v6 v7) 27)).drew.cell? ⟨w.heap.size, 0, none⟩ = some (.int .u8 h.hint) ∧ (w.alloc (.cells (histCells h v1 v2 v3 v4 v5 v6 v7) 27)).drew.cell? ⟨w.heap.size, 1, none⟩ = some (.int .i32 h.schema) ∧ (w.alloc (.cells (histCells h v1 v2 v3 v4 v5 v6 v7) 27)).drew.cell? ⟨w.heap.size, 2, none⟩ = some (.int .u64 h.thr) ∧ (w.alloc (.cells (histCells h v1 v2 v3 v4 v5 v6 v7) 27)).drew.cell? ⟨w.heap.size, 3, none⟩ = some (.int .u64 h.sum) ∧ (w.alloc (.cells (histCells h v1 v2 v3 v4 v5 v6 v7) 27)).drew.cell? ⟨w.heap.size, 4, none⟩ = some (.int .u64 h.zc) ∧ (w.alloc (.cells (histCells h v1 v2 v3 v4 v5 v6 v7) 27)).drew.cell? ⟨w.heap.size, 5, none⟩ = some (.int .u64 h.cnt) ∧ (w.alloc (.cells (histCells h v1 v2 v3 v4 v5 v6 v7) 27)).drew.cell? ⟨w.heap.size, 6, none⟩ = some (v1) ∧ (w.alloc (.cells (histCells h v1 v2 v3 v4 v5 v6 v7) 27)).drew.cell? ⟨w.heap.size, 7, none⟩ = some (v2) ∧ (w.alloc (.cells (histCells h v1 v2 v3 v4 v5 v6 v7) 27)).drew.cell? ⟨w.heap.size, 10, none⟩ = some (v5) ∧ (w.alloc (.cells (histCells h v1 v2 v3 v4 v5 v6 v7) 27)).drew.cell? ⟨w.heap.size, 11, none⟩ = some (v6) ∧ (w.alloc (.cells (histCells h v1 v2 v3 v4 v5 v6 v7) 27)).drew.cell? ⟨w.heap.size, 12, none⟩ = some (v7) := by simp [histCells]
  have hs0 : w.heap.size < (w.alloc (.cells (histCells h v1 v2 v3 v4 v5 v6 v7) 27)).drew.heap.size := by simp
  unfold histCells at hB0 hc hs0
  generalize hb : w.heap.size = b at hc
  generalize w.alloc _ = W at *
  subst hb

  go_region_held3 (fun w' => w'.cell? ⟨w.heap.size, 0, none⟩ = some (.int .u8 h.hint) ∧ w'.cell? ⟨w.heap.size, 1, none⟩ = some (.int .i32 h.schema) ∧ w'.cell? ⟨w.heap.size, 2, none⟩ = some (.int .u64 h.thr) ∧ w'.cell? ⟨w.heap.size, 3, none⟩ = some (.int .u64 h.sum) ∧ w'.cell? ⟨w.heap.size, 4, none⟩ = some (.int .u64 h.zc) ∧ w'.cell? ⟨w.heap.size, 5, none⟩ = some (.int .u64 h.cnt) ∧ w'.cell? ⟨w.heap.size, 6, none⟩ = some (v1) ∧ w'.cell? ⟨w.heap.size, 7, none⟩ = some (v2) ∧ w'.cell? ⟨w.heap.size, 10, none⟩ = some (v5) ∧ w'.cell? ⟨w.heap.size, 11, none⟩ = some (v6) ∧ w'.cell? ⟨w.heap.size, 12, none⟩ = some (v7)) (first | assumption | exact keep11b hb5 (by omega) (by assumption) | exact keep11b hb4 (by omega) (by assumption) | exact keep11b hb3 (by omega) (by assumption) | exact keep11b hb2 (by omega) (by assumption) | exact keep11b hb1 (by omega) (by assumption) | go_keep)
    (first
      | (go_at_call 47; refine (float_any _ _).mono ?_; rintro e w' ⟨rfl, rfl⟩)
      | (go_at_call 79; with_reducible (show Calls _ _ #[v1] _ _); refine (spans_any v1 h.pos w.heap.size _ (ha.pos.below hB0 (Nat.le_refl _)) hf.pos).mono ?_; rintro e w1 ⟨x1, rfl, ho1, hb1, hn1⟩; obtain ⟨a1, c1, rfl⟩ := own_form ho1; have hB1 := hB0.trans (hb1.mono hB0.size); have hz1 := hb1.size; have o1 := OwnIn.made ho1 hz1)
      | (go_at_call 79; with_reducible (show Calls _ _ #[v2] _ _); refine (spans_any v2 h.neg w.heap.size _ (ha.neg.below hB1 (Nat.le_refl _)) hf.neg).mono ?_; rintro e w2 ⟨x2, rfl, ho2, hb2, hn2⟩; obtain ⟨a2, c2, rfl⟩ := own_form ho2; have hB2 := hB1.trans (hb2.mono hB1.size); have hz2 := hb2.size; have o2 := OwnIn.made ho2 hz2; replace o1 := o1.below hb2 (by omega))
      | (go_at_call 80; with_reducible (show Calls _ _ #[v5] _ _); refine (floats_any v5 h.fups w.heap.size _ (ha.fups.below hB2 (Nat.le_refl _)) hf.fups).mono ?_; rintro e w3 ⟨x3, rfl, ho3, hb3, hn3⟩; obtain ⟨a3, c3, rfl⟩ := own_form ho3; have hB3 := hB2.trans (hb3.mono hB2.size); have hz3 := hb3.size; have o3 := OwnIn.made ho3 hz3; replace o1 := o1.below hb3 (by omega); replace o2 := o2.below hb3 (by omega))
      | (go_at_call 80; with_reducible (show Calls _ _ #[v6] _ _); refine (floats_any v6 h.fdowns w.heap.size _ (ha.fdowns.below hB3 (Nat.le_refl _)) hf.fdowns).mono ?_; rintro e w4 ⟨x4, rfl, ho4, hb4, hn4⟩; obtain ⟨a4, c4, rfl⟩ := own_form ho4; have hB4 := hB3.trans (hb4.mono hB3.size); have hz4 := hb4.size; have o4 := OwnIn.made ho4 hz4; replace o1 := o1.below hb4 (by omega); replace o2 := o2.below hb4 (by omega); replace o3 := o3.below hb4 (by omega))
      | (go_at_call 80; with_reducible (show Calls _ _ #[v7] _ _); refine (floats_any v7 h.cus w.heap.size _ (ha.cus.below hB4 (Nat.le_refl _)) hf.cus).mono ?_; rintro e w5 ⟨x5, rfl, ho5, hb5, hn5⟩; obtain ⟨a5, c5, rfl⟩ := own_form ho5; have hB5 := hB4.trans (hb5.mono hB4.size); have hz5 := hb5.size; have o5 := OwnIn.made ho5 hz5; replace o1 := o1.below hb5 (by omega); replace o2 := o2.below hb5 (by omega); replace o3 := o3.below hb5 (by omega); replace o4 := o4.below hb5 (by omega)))
  go_wp2
  go_ret
  have hA := (Below.refl w5.heap.size w5).alloc (Nat.le_refl _) (.cells #[.int .u8 h.hint, .int .i32 h.schema, .float .f64 h.thr, .float .f64 h.zc, .float .f64 h.cnt, .float .f64 h.sum, .slice a1 h.pos.length c1, .slice a2 h.neg.length c2, .slice a3 h.fups.length c3, .slice a4 h.fdowns.length c4, .slice a5 h.cus.length c5] 89)
  have hA' := hB5.alloc hB5.size (.cells #[.int .u8 h.hint, .int .i32 h.schema, .float .f64 h.thr, .float .f64 h.zc, .float .f64 h.cnt, .float .f64 h.sum, .slice a1 h.pos.length c1, .slice a2 h.neg.length c2, .slice a3 h.fups.length c3, .slice a4 h.fdowns.length c4, .slice a5 h.cus.length c5] 89)
  refine ⟨w5.heap.size, _, _, _, _, _, rfl, heap_alloc_new w5 _, ⟨⟨w1.heap.size, w2.heap.size, w3.heap.size, w4.heap.size, (o1.lower (by omega)).below hA (by omega), o2.below hA (by omega), ?_, ?_, o5.below hA (Nat.le_refl _)⟩, hn5⟩, hA'⟩
  · rw [List.length_map]; exact o3.below hA (by omega)
  · rw [List.length_map]; exact o4.below hA (by omega)
end Go.Proofs.YtbgkoapnejnfbaaDoor
