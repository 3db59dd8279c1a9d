/-
  Slices that are read: a slice value, its length, and what its cells hold; in any world that has kept the old blocks.
-/
import Derived.WalkKit
import Derived.WalkSpells
import Derived.WalkLawsBesides
import Derived.Laws.Externs
import Derived.Below
import Derived.Lib.Hide
import Derived.Laws.BitsAllLaws
import Derived.Laws.OwnMore
namespace Go.Proofs.YtapoodnjkkhggaaGreat
set_option linter.unusedSimpArgs false
set_option linter.unusedVariables false
open Go.RowKit

theorem eqi {a b : Bool} (h : a = true ↔ b = true) : Ending.returned (.bool a) = .returned (.bool b) := by rw [Bool.eq_iff_iff.2 h]
theorem eqb {a b : Bool} (h : a = b) : Ending.returned (.bool a) = .returned (.bool b) := by rw [h]
theorem eqn {k : IntKind} {a b : Int} (h : a = b) : Ending.returned (.int k a) = .returned (.int k b) := by rw [h]

/-- cells that have just been made -/
theorem news_at (w : World) (n : Nat) (hn : w.heap.size = n) (cs : List Value) (t : TypeId) : ∀ j u, cs[j]? = some u → (w.alloc (.cells cs.toArray t)).cell? ((⟨n, 0, none⟩ : Addr).add j) = some u := by
  subst hn
  intro j u hj
  have hl := (List.getElem?_eq_some_iff.1 hj).1
  have e : ∀ o, (w.alloc (.cells cs.toArray t)).cell? ⟨w.heap.size, o, none⟩ = cs[o]? := fun o => by rw [World.cell?_alloc_at _ _ _ _ rfl]; simp
  by_cases h : j = 0
  · subst h; simpa [Addr.add] using (e 0).trans hj
  · simpa [Addr.add, h] using (e j).trans hj

theorem one2 (j k : IntKind) (a b : Int) : ∀ u ∈ [Value.int j a, .int k b], u.oneCell' = true := by intro u hu; simp at hu; rcases hu with rfl | rfl <;> rfl
theorem one1 (j : IntKind) (a : Int) : ∀ u ∈ [Value.int j a], u.oneCell' = true := by intro u hu; simp at hu; subst hu; rfl
theorem onef (a : Nat) : ∀ u ∈ [Value.float .f64 a], u.oneCell' = true := by intro u hu; simp at hu; subst hu; rfl

/-- a slice of n elements, of 'size' cells each: cell i holds f i; it lies below block B -/
def Sl (w : World) (B size : Nat) (v : Value) (n : Nat) (f : Nat → Value) : Prop :=
  ∃ ao cap, v = .slice ao n cap ∧ n ≤ cap ∧ cap ≤ maxLen ∧
    (n = 0 ∨ ∃ b off, ao = some ⟨b, off, none⟩ ∧ b < B ∧ B ≤ w.heap.size ∧ ∀ i, i < n * size → w.cell? ⟨b, off + i, none⟩ = some (f i))

theorem Sl.below {w w' : World} {B B' size : Nat} {v : Value} {n : Nat} {f : Nat → Value} (h : Sl w B size v n f) (hb : Below B' w w') (hB : B ≤ B') : Sl w' B size v n f := by
  obtain ⟨ao, cap, hv, h1, h2, h3⟩ := h
  refine ⟨ao, cap, hv, h1, h2, ?_⟩
  rcases h3 with h3 | ⟨b, off, h4, h5, h5', h6⟩
  · exact .inl h3
  · exact .inr ⟨b, off, h4, h5, Nat.le_trans h5' hb.size, fun i hi => (hb.cell (p := ⟨b, off + i, none⟩) (by show b < B'; omega)).trans (h6 i hi)⟩

theorem Sl.mono {w : World} {B B' size : Nat} {v : Value} {n : Nat} {f : Nat → Value} (h : Sl w B size v n f) (hB : B ≤ B') (hw : B' ≤ w.heap.size) : Sl w B' size v n f := by
  obtain ⟨ao, cap, hv, h1, h2, h3⟩ := h
  refine ⟨ao, cap, hv, h1, h2, ?_⟩
  rcases h3 with h3 | ⟨b, off, h4, h5, h5', h6⟩
  · exact .inl h3
  · exact .inr ⟨b, off, h4, by omega, hw, h6⟩

theorem Sl.congr {w : World} {B size : Nat} {v : Value} {n : Nat} {f g : Nat → Value} (h : Sl w B size v n f) (hfg : ∀ i, i < n * size → f i = g i) : Sl w B size v n g := by
  obtain ⟨ao, cap, hv, h1, h2, h3⟩ := h
  refine ⟨ao, cap, hv, h1, h2, ?_⟩
  rcases h3 with h3 | ⟨b, off, h4, h5, h5', h6⟩
  · exact .inl h3
  · exact .inr ⟨b, off, h4, h5, h5', fun i hi => by rw [h6 i hi, hfg i hi]⟩

theorem Sl.form {w : World} {B size : Nat} {v : Value} {n : Nat} {f : Nat → Value} (h : Sl w B size v n f) : ∃ ao cap, v = .slice ao n cap ∧ n ≤ cap ∧ cap ≤ maxLen :=
  let ⟨ao, cap, hv, h1, h2, _⟩ := h; ⟨ao, cap, hv, h1, h2⟩

/-- at an index that is there: the address, and the cells -/
theorem Sl.at_ {w : World} {B size : Nat} {ao : Option Addr} {n n' cap : Nat} {f : Nat → Value} (h : Sl w B size (.slice ao n' cap) n f) (hn : 0 < n) :
    ∃ b off, ao = some ⟨b, off, none⟩ ∧ b < B ∧ B ≤ w.heap.size ∧ ∀ i, i < n * size → w.cell? ⟨b, off + i, none⟩ = some (f i) := by
  obtain ⟨ao', cap', hv, h1, h2, h3⟩ := h
  cases hv
  rcases h3 with h3 | h3
  · omega
  · exact h3

theorem Sl.nil (w : World) (B size : Nat) (f : Nat → Value) : Sl w B size (.slice none 0 0) 0 f := ⟨none, 0, rfl, Nat.le_refl _, Nat.zero_le _, .inl rfl⟩

/-- what the call has made by append reads as a slice -/
theorem Sl.own {w : World} {base e size : Nat} {v : Value} {n : Nat} {xs : List Value} (h : w.ownsRow base e size v n xs) : Sl w w.heap.size size v n (fun i => xs.getD i undef) := by
  obtain ⟨hl, ⟨rfl, rfl⟩ | ⟨g, cap, cur, rfl, h1, h2, h3, h4, h5, h6⟩⟩ := h
  · exact Sl.nil _ _ _ _
  · have hg : g < w.heap.size := (Array.getElem?_eq_some_iff.1 h2).1
    refine ⟨_, cap, rfl, h3, h4, .inr ⟨g, 0, rfl, hg, Nat.le_refl _, fun i hi => ?_⟩⟩
    have hs : i < cur.size := by rw [h5]; exact Nat.lt_of_lt_of_le hi (Nat.mul_le_mul_right _ h3)
    simp only [World.cell?, h2, Option.isSome_none, Bool.false_eq_true, if_false, Nat.zero_add]
    rw [Array.getElem?_eq_getElem hs, ← h6]
    congr 1
    rw [List.getD_eq_getElem?_getD, List.getElem?_take_of_lt hi, Array.getElem?_toList, Array.getElem?_eq_getElem hs]
    rfl

/-- whole numbers, words of floats -/
def Ints (w : World) (B : Nat) (k : IntKind) (v : Value) (l : List Int) : Prop := Sl w B 1 v l.length fun i => .int k (l.getD i 0)
def Floats (w : World) (B : Nat) (v : Value) (l : List Nat) : Prop := Sl w B 1 v l.length fun i => .float .f64 (l.getD i 0)
/-- pairs of whole numbers -/
def Pairs (w : World) (B : Nat) (j k : IntKind) (v : Value) (l : List (Int × Int)) : Prop :=
  Sl w B 2 v l.length fun i => if i % 2 = 0 then .int j (l.getD (i / 2) (0, 0)).1 else .int k (l.getD (i / 2) (0, 0)).2

theorem Ints.below {w w' : World} {B B' : Nat} {k : IntKind} {v : Value} {l : List Int} (h : Ints w B k v l) (hb : Below B' w w') (hB : B ≤ B') : Ints w' B k v l := Sl.below h hb hB
theorem Floats.below {w w' : World} {B B' : Nat} {v : Value} {l : List Nat} (h : Floats w B v l) (hb : Below B' w w') (hB : B ≤ B') : Floats w' B v l := Sl.below h hb hB
theorem Pairs.below {w w' : World} {B B' : Nat} {j k : IntKind} {v : Value} {l : List (Int × Int)} (h : Pairs w B j k v l) (hb : Below B' w w') (hB : B ≤ B') : Pairs w' B j k v l := Sl.below h hb hB
theorem Ints.mono {w : World} {B B' : Nat} {k : IntKind} {v : Value} {l : List Int} (h : Ints w B k v l) (hB : B ≤ B') (hw : B' ≤ w.heap.size) : Ints w B' k v l := Sl.mono h hB hw
theorem Floats.mono {w : World} {B B' : Nat} {v : Value} {l : List Nat} (h : Floats w B v l) (hB : B ≤ B') (hw : B' ≤ w.heap.size) : Floats w B' v l := Sl.mono h hB hw
theorem Pairs.mono {w : World} {B B' : Nat} {j k : IntKind} {v : Value} {l : List (Int × Int)} (h : Pairs w B j k v l) (hB : B ≤ B') (hw : B' ≤ w.heap.size) : Pairs w B' j k v l := Sl.mono h hB hw

theorem Ints.form {w : World} {B : Nat} {k : IntKind} {v : Value} {l : List Int} (h : Ints w B k v l) : ∃ ao cap, v = .slice ao l.length cap ∧ l.length ≤ cap ∧ cap ≤ maxLen := Sl.form h
theorem Floats.form {w : World} {B : Nat} {v : Value} {l : List Nat} (h : Floats w B v l) : ∃ ao cap, v = .slice ao l.length cap ∧ l.length ≤ cap ∧ cap ≤ maxLen := Sl.form h
theorem Pairs.form {w : World} {B : Nat} {j k : IntKind} {v : Value} {l : List (Int × Int)} (h : Pairs w B j k v l) : ∃ ao cap, v = .slice ao l.length cap ∧ l.length ≤ cap ∧ cap ≤ maxLen := Sl.form h

theorem Ints.at_ {w : World} {B : Nat} {k : IntKind} {ao : Option Addr} {n cap : Nat} {l : List Int} (h : Ints w B k (.slice ao n cap) l) (hn : 0 < l.length) :
    ∃ b off, ao = some ⟨b, off, none⟩ ∧ b < B ∧ B ≤ w.heap.size ∧ ∀ i (hi : i < l.length), w.cell? ⟨b, off + i, none⟩ = some (.int k l[i]) := by
  obtain ⟨b, off, h1, h2, h2', h3⟩ := Sl.at_ h hn
  exact ⟨b, off, h1, h2, h2', fun i hi => by rw [h3 i (by omega)]; simp [hi]⟩
theorem Floats.at_ {w : World} {B : Nat} {ao : Option Addr} {n cap : Nat} {l : List Nat} (h : Floats w B (.slice ao n cap) l) (hn : 0 < l.length) :
    ∃ b off, ao = some ⟨b, off, none⟩ ∧ b < B ∧ B ≤ w.heap.size ∧ ∀ i (hi : i < l.length), w.cell? ⟨b, off + i, none⟩ = some (.float .f64 l[i]) := by
  obtain ⟨b, off, h1, h2, h2', h3⟩ := Sl.at_ h hn
  exact ⟨b, off, h1, h2, h2', fun i hi => by rw [h3 i (by omega)]; simp [hi]⟩
theorem Pairs.at_ {w : World} {B : Nat} {j k : IntKind} {ao : Option Addr} {n cap : Nat} {l : List (Int × Int)} (h : Pairs w B j k (.slice ao n cap) l) (hn : 0 < l.length) :
    ∃ b off, ao = some ⟨b, off, none⟩ ∧ b < B ∧ B ≤ w.heap.size ∧ ∀ i (hi : i < l.length), w.cell? ⟨b, off + i * 2, none⟩ = some (.int j l[i].1) ∧ w.cell? ⟨b, off + i * 2 + 1, none⟩ = some (.int k l[i].2) := by
  obtain ⟨b, off, h1, h2, h2', h3⟩ := Sl.at_ h hn
  refine ⟨b, off, h1, h2, h2', fun i hi => ⟨?_, ?_⟩⟩
  · rw [h3 (i * 2) (by omega)]; simp [hi]
  · rw [Nat.add_assoc, h3 (i * 2 + 1) (by omega)]
    have e1 : (i * 2 + 1) % 2 = 1 := by omega
    have e2 : (i * 2 + 1) / 2 = i := by omega
    simp [hi, e1, e2]

theorem Ints.own {w : World} {base e : Nat} {k : IntKind} {v : Value} {n : Nat} {l : List Int} (h : w.ownsRow base e 1 v n (l.map (Value.int k))) : Ints w w.heap.size k v l := by
  have hn : l.length = n := by have := h.1; simpa using this
  unfold Ints
  rw [hn]
  refine (Sl.own h).congr fun i hi => ?_
  have : i < l.length := by omega
  simp [this]
theorem Floats.own {w : World} {base e : Nat} {v : Value} {n : Nat} {l : List Nat} (h : w.ownsRow base e 1 v n (l.map (Value.float .f64))) : Floats w w.heap.size v l := by
  have hn : l.length = n := by have := h.1; simpa using this
  unfold Floats
  rw [hn]
  refine (Sl.own h).congr fun i hi => ?_
  have : i < l.length := by omega
  simp [this]

/-- the cells of a list of pairs -/
def flat (j k : IntKind) (l : List (Int × Int)) : List Value := l.flatMap fun x => [.int j x.1, .int k x.2]
theorem length_flat (j k : IntKind) (l : List (Int × Int)) : (flat j k l).length = l.length * 2 := by
  induction l with
  | nil => rfl
  | cons x l ih => simp only [flat, List.flatMap_cons, List.length_append, List.length_cons, List.length_nil] at *; omega
theorem flat_append (j k : IntKind) (l m : List (Int × Int)) : flat j k (l ++ m) = flat j k l ++ flat j k m := by simp [flat]
theorem getD_flat (j k : IntKind) (l : List (Int × Int)) (i : Nat) (h : i < l.length * 2) :
    (flat j k l).getD i undef = if i % 2 = 0 then .int j (l.getD (i / 2) (0, 0)).1 else .int k (l.getD (i / 2) (0, 0)).2 := by
  induction l generalizing i with
  | nil => simp at h
  | cons x l ih =>
    have e : flat j k (x :: l) = .int j x.1 :: .int k x.2 :: flat j k l := rfl
    rw [e]
    match i with
    | 0 => rfl
    | 1 => rfl
    | i + 2 =>
      have h1 : (i + 2) % 2 = i % 2 := by omega
      have h2 : (i + 2) / 2 = i / 2 + 1 := by omega
      rw [List.getD_cons_succ, List.getD_cons_succ, ih i (by simp at h; omega), h1, h2, List.getD_cons_succ]
theorem Pairs.own {w : World} {base e : Nat} {j k : IntKind} {v : Value} {n : Nat} {l : List (Int × Int)} (h : w.ownsRow base e 2 v n (flat j k l)) : Pairs w w.heap.size j k v l := by
  have hn : l.length = n := by have := h.1; rw [length_flat] at this; omega
  unfold Pairs
  rw [hn]
  exact (Sl.own h).congr fun i hi => getD_flat j k l i (by omega)
end Go.Proofs.YtapoodnjkkhggaaGreat
