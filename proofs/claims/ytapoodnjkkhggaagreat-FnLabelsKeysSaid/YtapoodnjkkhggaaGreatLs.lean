/-
  Slices of labels: two strings a place.
-/
import Derived.Test.YtapoodnjkkhggaaGreatOwn
import Derived.Test.YtapoodnjkkhggaaGreatLbP
namespace Go.Proofs.YtapoodnjkkhggaaGreat
set_option linter.unusedSimpArgs false
set_option linter.unusedVariables false
open Go.RowKit

def cellL (l : List Lb) (i : Nat) : Value := if i % 2 = 0 then .string (l.getD (i / 2) lb0).1 else .string (l.getD (i / 2) lb0).2
/-- a slice of labels below block B -/
def LsB (w : World) (B : Nat) (v : Value) (l : List Lb) : Prop := Sl w B 2 v l.length (cellL l)
def Ls (w : World) (v : Value) (l : List Lb) : Prop := LsB w w.heap.size v l
theorem LsB.below {w w' : World} {B B' : Nat} {v : Value} {l : List Lb} (h : LsB w B v l) (hb : Below B' w w') (hB : B ≤ B') : LsB w' B v l := Sl.below h hb hB
theorem Ls.up {w w' : World} {v : Value} {l : List Lb} (h : Ls w v l) (hb : Below w.heap.size w w') : Ls w' v l := Sl.up h hb
theorem LsB.form {w : World} {B : Nat} {v : Value} {l : List Lb} (h : LsB w B v l) : ∃ ao cap, v = .slice ao l.length cap ∧ l.length ≤ cap ∧ cap ≤ maxLen := Sl.form h
theorem Ls.form {w : World} {v : Value} {l : List Lb} (h : Ls w v l) : ∃ ao cap, v = .slice ao l.length cap ∧ l.length ≤ cap ∧ cap ≤ maxLen := Sl.form h
theorem LsB.at_ {w : World} {B : Nat} {ao : Option Addr} {n cap : Nat} {l : List Lb} (h : LsB w B (.slice ao n cap) l) (hn : 0 < l.length) :
    ∃ b off, ao = some ⟨b, off, none⟩ ∧ b < B ∧ B ≤ w.heap.size ∧ ∀ i (hi : i < l.length), w.cell? ⟨b, off + i * 2, none⟩ = some (.string l[i].1) ∧ w.cell? ⟨b, off + i * 2 + 1, none⟩ = some (.string l[i].2) := by
  obtain ⟨b, off, h1, h2, h2', h3⟩ := Sl.at_ h hn
  refine ⟨b, off, h1, h2, h2', fun i hi => ⟨?_, ?_⟩⟩
  · rw [h3 (i * 2) (by omega)]; simp [cellL, hi]
  · rw [Nat.add_assoc, h3 (i * 2 + 1) (by omega)]
    have e1 : (i * 2 + 1) % 2 = 1 := by omega
    have e2 : (i * 2 + 1) / 2 = i := by omega
    simp [cellL, hi, e1, e2]
theorem Ls.at_ {w : World} {ao : Option Addr} {n cap : Nat} {l : List Lb} (h : Ls w (.slice ao n cap) l) (hn : 0 < l.length) :
    ∃ b off, ao = some ⟨b, off, none⟩ ∧ b < w.heap.size ∧ ∀ i (hi : i < l.length), w.cell? ⟨b, off + i * 2, none⟩ = some (.string l[i].1) ∧ w.cell? ⟨b, off + i * 2 + 1, none⟩ = some (.string l[i].2) := by
  obtain ⟨b, off, h1, h2, _, h3⟩ := LsB.at_ h hn
  exact ⟨b, off, h1, h2, h3⟩
theorem Ls.nil (w : World) : Ls w (.slice none 0 0) [] := Sl.nil _ _ _ _

/-- the cells of labels -/
def lcells (l : List Lb) : List Value := l.flatMap fun x => [.string x.1, .string x.2]
theorem lcells_length (l : List Lb) : (lcells l).length = l.length * 2 := by
  induction l with
  | nil => rfl
  | cons x l ih => simp only [lcells, List.flatMap_cons, List.length_append, List.length_cons, List.length_nil] at *; omega
theorem lcells_append (l m : List Lb) : lcells (l ++ m) = lcells l ++ lcells m := by simp [lcells]
theorem lcells_cons (x : Lb) (l : List Lb) : lcells (x :: l) = .string x.1 :: .string x.2 :: lcells l := rfl
theorem lcells_one (l : List Lb) : ∀ u ∈ lcells l, u.oneCell' = true := by
  intro u hu
  obtain ⟨x, _, hx⟩ := List.mem_flatMap.1 hu
  simp at hx
  rcases hx with rfl | rfl <;> rfl
theorem getD_lcells (l : List Lb) (i : Nat) (h : i < l.length * 2) : (lcells l).getD i undef = cellL l i := by
  induction l generalizing i with
  | nil => simp at h
  | cons x l ih =>
    rw [lcells_cons]
    match i with
    | 0 => rfl
    | 1 => rfl
    | i + 2 =>
      have h1 : (i + 2) % 2 = i % 2 := by omega
      have h2 : (i + 2) / 2 = i / 2 + 1 := by omega
      rw [List.getD_cons_succ, List.getD_cons_succ, ih i (by simp at h; omega)]
      unfold cellL
      rw [h1, h2, List.getD_cons_succ]
theorem lcells_at (l : List Lb) (k : Nat) (h : k < l.length) : (lcells l)[k * 2]? = some (.string l[k].1) ∧ (lcells l)[k * 2 + 1]? = some (.string l[k].2) := by
  have e := lcells_length l
  have g : ∀ i (hi : i < (lcells l).length), (lcells l)[i]? = some (cellL l i) := fun i hi => by
    have := getD_lcells l i (by omega)
    rw [List.getD_eq_getElem?_getD, List.getElem?_eq_getElem hi] at this
    rw [List.getElem?_eq_getElem hi, ← this]; rfl
  refine ⟨?_, ?_⟩
  · rw [g _ (by omega)]; simp [cellL, h]
  · have e1 : (k * 2 + 1) % 2 = 1 := by omega
    have e2 : (k * 2 + 1) / 2 = k := by omega
    rw [g _ (by omega)]; simp [cellL, h, e1, e2]
theorem Ls.own {w : World} {base e : Nat} {v : Value} {n : Nat} {l : List Lb} (h : w.ownsRow base e 2 v n (lcells l)) : Ls w v l := by
  have hn : l.length = n := by have := h.1; rw [lcells_length] at this; omega
  unfold Ls LsB
  rw [hn]
  exact (Sl.own h).congr fun i hi => getD_lcells l i (by omega)
end Go.Proofs.YtapoodnjkkhggaaGreat
