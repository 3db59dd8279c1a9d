/-
  An argument that is a slice, opened: a list of what its elements read as.
-/
import Derived.Test.YtapoodnjkkhggaaGreatLib
import Derived.ProofKit
import Derived.Deep.Slices
namespace Go.Proofs.YtapoodnjkkhggaaGreat
set_option linter.unusedSimpArgs false
set_option linter.unusedVariables false
open Go.RowKit Go.Deep

section
variable {H : Type} {enc : TypeId × Value → H} {P : Program} {w : World} {base : Nat} {spare : Nat → Bool} {held : Bool}

theorem lt_of_cell {w : World} {a : Addr} {v : Value} (h : w.cell? a = some v) : a.block < w.heap.size ∧ a.spot = none := by
  unfold World.cell? at h
  split at h
  · rename_i hb
    constructor
    · exact (Array.getElem?_eq_some_iff.1 hb).1
    · cases hs : a.spot with
      | none => rfl
      | some _ => rw [hs] at h; simp at h
  · cases h

theorem list_of {α : Type} (n : Nat) (p : Nat → α → Prop) (h : ∀ i, i < n → ∃ x, p i x) : ∃ l : List α, l.length = n ∧ ∀ i (hi : i < l.length), p i l[i] := by
  induction n with
  | zero => exact ⟨[], rfl, fun i hi => absurd hi (by simp)⟩
  | succ n ih =>
    obtain ⟨l, hl, hp⟩ := ih fun i hi => h i (by omega)
    obtain ⟨x, hx⟩ := h n (by omega)
    refine ⟨l ++ [x], by simp [hl], fun i hi => ?_⟩
    by_cases hin : i < l.length
    · rw [List.getElem_append_left hin]; exact hp i hin
    · have : i = l.length := by simp at hi; omega
      subst this
      subst hl
      simpa using hx

/-- a slice opened: its elements' cells, each element by R -/
theorem open_sl {α : Type} {t e : TypeId} {s fuel : Nat} {cs : List Value} {x : DataW H × List MemPlace} (ht : P.underlying t = some (.slice e)) (hc : P.cellsOf e = s) (h0 : 0 < s)
    (h : DataW.trod enc P w base spare held fuel t cs = some x) (R : List Value → α → Prop) (hR : ∀ n cs' y, DataW.trod enc P w base spare held n e cs' = some y → ∃ a, R cs' a) :
    ∃ (v : Value) (l : List α), cs = [v] ∧ ∀ f : Nat → Value, (∀ i (hi : i < l.length) ecs, R ecs l[i] → ∀ j, j < s → ecs[j]? = some (f (i * s + j))) → Sl w w.heap.size s v l.length f := by
  rcases open_slice ht h with ⟨h1, _⟩ | ⟨a, len, cap, m, n, D, Pl, hcs, _, hl, hm, hmm, _, hx⟩
  · exact ⟨_, [], h1, fun f _ => Sl.nil _ _ _ _⟩
  · have hlm : len ≤ m := by rw [hmm]; split <;> omega
    rw [hc] at hx
    have each : ∀ i, i < len → ∃ y, ∃ ecs, w.cells? base (a.add (i * s)) s = some ecs ∧ R ecs y := by
      intro i hi
      obtain ⟨ecs, h1, h2⟩ := hx i (by omega)
      obtain ⟨y, hy⟩ := hR _ _ _ h2
      exact ⟨y, ecs, h1, hy⟩
    obtain ⟨l, hlen, hp⟩ := list_of len _ each
    refine ⟨_, l, hcs, fun f hf => ?_⟩
    refine ⟨some a, cap, by rw [hlen], by omega, hm, ?_⟩
    by_cases hz : l.length = 0
    · exact .inl hz
    · right
      have cell : ∀ i, i < l.length * s → w.cell? (a.add i) = some (f i) := by
        intro i hi
        have hq : i / s < l.length := (Nat.div_lt_iff_lt_mul h0).2 hi
        have hr : i % s < s := Nat.mod_lt _ h0
        obtain ⟨ecs, h1, h2⟩ := hp (i / s) hq
        obtain ⟨_, _, h3⟩ := World.cells?_some h1
        have h4 := h3 (i % s) hr
        rw [hf _ hq _ h2 _ hr] at h4
        have e : i / s * s + i % s = i := by rw [Nat.mul_comm]; exact Nat.div_add_mod i s
        rw [e] at h4
        rw [← h4]
        congr 1
        unfold Addr.add
        by_cases c1 : i % s = 0
        · have : i = i / s * s := by omega
          simp [c1, ← this]
        · have c2 : i ≠ 0 := by intro c; subst c; simp at c1
          rw [if_neg c2, if_neg c1]
          by_cases c3 : i / s * s = 0
          · rw [if_pos c3]; simp <;> omega
          · rw [if_neg c3]; simp <;> omega
      have c0 := cell 0 (by have := Nat.mul_pos (show 0 < l.length by omega) h0; omega)
      have e0 : a.add 0 = a := by simp [Addr.add]
      rw [e0] at c0
      obtain ⟨hlt, hspot⟩ := lt_of_cell c0
      refine ⟨a.block, a.off, by cases a; simp at hspot; subst hspot; rfl, hlt, Nat.le_refl _, fun i hi => ?_⟩
      have := cell i hi
      rw [← this]
      congr 1
      unfold Addr.add
      by_cases c : i = 0
      · subst c; cases a; simp at hspot; subst hspot; simp
      · rw [if_neg c]

theorem open_Ints {t e : TypeId} {k : IntKind} {fuel : Nat} {cs : List Value} {x : DataW H × List MemPlace} (ht : P.underlying t = some (.slice e)) (he : P.underlying e = some (.int k)) (hc : P.cellsOf e = 1)
    (h : DataW.trod enc P w base spare held fuel t cs = some x) : ∃ (v : Value) (l : List Int), cs = [v] ∧ Ints w w.heap.size k v l ∧ ∀ z ∈ l, (Lit.int k z).wf = true := by
  obtain ⟨v, l, h1, h2⟩ := open_sl (α := { z : Int // (Lit.int k z).wf = true }) ht hc (by omega) h (fun ecs z => ecs = [.int k z.1]) (by
    intro n cs' y hy
    obtain ⟨z, rfl, _, hz⟩ := DataW.trod_int he hy
    exact ⟨⟨z, hz⟩, rfl⟩)
  refine ⟨v, l.map (·.1), h1, ?_, ?_⟩
  · unfold Ints
    rw [List.length_map]
    refine h2 _ ?_
    rintro i hi ecs rfl j hj
    have : j = 0 := by omega
    subst this
    simp [hi]
  · intro z hz
    obtain ⟨y, _, rfl⟩ := List.mem_map.1 hz
    exact y.2

theorem open_Pairs {t e : TypeId} {f0 f1 : Field} {k0 k1 : IntKind} {fuel : Nat} {cs : List Value} {x : DataW H × List MemPlace} (ht : P.underlying t = some (.slice e)) (he : P.underlying e = some (.struct #[f0, f1])) (hc : P.cellsOf e = 2)
    (h0 : P.underlying f0.type = some (.int k0)) (h1 : P.underlying f1.type = some (.int k1)) (c0 : P.cellsOf f0.type = 1) (c1 : P.cellsOf f1.type = 1) (o0 : f0.offset = 0) (o1 : f1.offset = 1)
    (h : DataW.trod enc P w base spare held fuel t cs = some x) : ∃ (v : Value) (l : List (Int × Int)), cs = [v] ∧ Pairs w w.heap.size k0 k1 v l ∧ ∀ z ∈ l, (Lit.int k0 z.1).wf = true ∧ (Lit.int k1 z.2).wf = true := by
  obtain ⟨v, l, g1, g2⟩ := open_sl (α := { z : Int × Int // (Lit.int k0 z.1).wf = true ∧ (Lit.int k1 z.2).wf = true }) ht hc (by omega) h (fun ecs z => ecs = [.int k0 z.1.1, .int k1 z.1.2]) (by
    intro n cs' y hy
    obtain ⟨y0, y1, m, _, hl, t0, t1⟩ := ChangeShapes.trod_struct2 he hy
    rw [hc] at hl
    obtain ⟨z0, e0, _, w0⟩ := DataW.trod_int h0 t0
    obtain ⟨z1, e1, _, w1⟩ := DataW.trod_int h1 t1
    match cs', hl with
    | [a, b], _ =>
      simp [o0, c0] at e0
      simp [o1, c1] at e1
      subst e0
      subst e1
      exact ⟨⟨(z0, z1), w0, w1⟩, rfl⟩)
  refine ⟨v, l.map (·.1), g1, ?_, ?_⟩
  · unfold Pairs
    rw [List.length_map]
    refine g2 _ ?_
    rintro i hi ecs rfl j hj
    have hj' : j = 0 ∨ j = 1 := by omega
    rcases hj' with rfl | rfl
    ·       simp [hi]
    · have e1 : (i * 2 + 1) % 2 = 1 := by omega
      have e2 : (i * 2 + 1) / 2 = i := by omega
      simp [e1, e2, hi]
  · intro z hz
    obtain ⟨y, _, rfl⟩ := List.mem_map.1 hz
    exact y.2
end
end Go.Proofs.YtapoodnjkkhggaaGreat
