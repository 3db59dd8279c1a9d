/-
  Slices of bytes: read, appended, copied.
-/
import Derived.Test.YthkdjjejcbndnaaGreatDoorBs
namespace Go.Proofs.YthkdjjejcbndnaaGreatDoor
set_option linter.unusedSimpArgs false
set_option linter.unusedVariables false
open Go.RowKit

/-- a list of bytes as cells -/
theorem one_bytes (l : List UInt8) : ∀ u ∈ Lib.byteCells l, u.oneCell' = true := by
  intro u hu
  unfold Lib.byteCells at hu
  obtain ⟨b, _, rfl⟩ := List.mem_map.1 hu
  rfl
theorem own_bytes_append {w : World} {base n : Nat} {v : Value} {xs : List Value} (hown : w.ownsRow base 5 1 v n xs) (p o m c : Nat) (news : List Value) (hl : news.length = m) (hc : ∀ j u, news[j]? = some u → w.cell? ⟨p, o + j, none⟩ = some u) (h1 : ∀ u ∈ news, u.oneCell' = true) (hn : n + m ≤ 2147483648) (hbase : base ≤ w.heap.size) :
    ∃ v' w', (Builtin.append_ #[26, 26] 26 #[v, .slice (some ⟨p, o, none⟩) m c]).run Tryz.prog w = .ok v' w' ∧ w'.ownsRow base 5 1 v' (n + m) (xs ++ news) ∧ w.grownBy w' v.ownBlock := by
  obtain ⟨i0, hi, hz0, hz1, hz2⟩ := info_parts infoU8
  obtain ⟨v', w', h1, h2, h3, _⟩ := run_append_own (P := Tryz.prog) w base 26 26 5 i0 _ 1 1 Tryz.underlying26 hi hz0 hz1 hz2 rfl (by decide) v n xs hown ⟨p, o, none⟩ m c news (by omega) (fun j u hj => by rw [add_cell]; exact hc j u hj) h1 (by unfold maxLen; omega) (by omega) hbase
  exact ⟨v', w', h1, h2, h3⟩

/-- a slice of bytes -/
def Bytes (w : World) (v : Value) (l : List UInt8) : Prop := Sl w w.heap.size 1 v l.length fun i => .int .u8 (l.getD i 0).toNat
theorem Bytes.up {w w' : World} {v : Value} {l : List UInt8} (h : Bytes w v l) (hb : Below w.heap.size w w') : Bytes w' v l := Sl.up h hb
theorem Bytes.form {w : World} {v : Value} {l : List UInt8} (h : Bytes w v l) : ∃ ao cap, v = .slice ao l.length cap ∧ l.length ≤ cap ∧ cap ≤ maxLen := Sl.form h
theorem Bytes.at_ {w : World} {ao : Option Addr} {n cap : Nat} {l : List UInt8} (h : Bytes w (.slice ao n cap) l) (hn : 0 < l.length) :
    ∃ b off, ao = some ⟨b, off, none⟩ ∧ b < w.heap.size ∧ ∀ i (hi : i < l.length), w.cell? ⟨b, off + i, none⟩ = some (.int .u8 l[i].toNat) := by
  obtain ⟨b, off, h1, h2, h2', h3⟩ := Sl.at_ h hn
  exact ⟨b, off, h1, h2, fun i hi => by rw [h3 i (by omega)]; simp [hi]⟩
theorem getElem?_bytes (l : List UInt8) (j : Nat) : (Lib.byteCells l)[j]? = (l[j]?).map fun b => Value.int .u8 b.toNat := by simp [Lib.byteCells]
theorem Bytes.own {w : World} {base n : Nat} {v : Value} {l : List UInt8} (h : w.ownsRow base 5 1 v n (Lib.byteCells l)) : Bytes w v l := by
  have hn : l.length = n := by have := h.1; rw [Lib.byteCells_length] at this; omega
  unfold Bytes
  rw [hn]
  refine (Sl.own h).congr fun i hi => ?_
  have hl : i < l.length := by omega
  rw [List.getD_eq_getElem?_getD, getElem?_bytes, List.getElem?_eq_getElem hl]
  simp [hl]

theorem copy_bytes (w : World) (v : Value) (l : List UInt8) (h : Bytes w v l) (hl : l.length ≤ 2147483647) :
    ∃ v' w', (Builtin.append_ #[26, 26] 26 #[.slice (some ⟨w.heap.size, 0, none⟩) 0 0, v]).run Tryz.prog (w.alloc (.cells #[] 5)) = .ok v' w' ∧ w'.ownsRow w.heap.size 5 1 v' l.length (Lib.byteCells l) ∧ Below w.heap.size w w' ∧ ∃ g c, v' = .slice (some ⟨g, 0, none⟩) l.length c := by
  obtain ⟨ao, cap, rfl, h1, h2⟩ := h.form
  have hO := own_empty w 5 1
  rcases Nat.eq_zero_or_pos l.length with h0 | h0
  · have : l = [] := List.length_eq_zero_iff.1 h0
    subst this
    obtain ⟨i0, hi, hz0, hz1, hz2⟩ := info_parts infoU8
    cases ao with
    | none =>
      refine ⟨_, w.alloc (.cells #[] 5), ?_, hO, below_new w _, _, _, rfl⟩
      have := run_append_room_src (P := Tryz.prog) (w := w.alloc (.cells #[] 5)) 26 26 26 5 i0 Tryz.underlying26 hi w.heap.size 0 0 0 (.slice none 0 cap) 0 [] (Src.ofNil _ Tryz.underlying26 cap) (by omega) (fun j hj => absurd hj (by simp)) (fun j hj => absurd hj (by simp))
      rw [show ([] : List UInt8).length = 0 from rfl, this]
      simp [World.setCells]
    | some a =>
      refine ⟨_, w.alloc (.cells #[] 5), ?_, hO, below_new w _, _, _, rfl⟩
      have := run_append_room_src (P := Tryz.prog) (w := w.alloc (.cells #[] 5)) 26 26 26 5 i0 Tryz.underlying26 hi w.heap.size 0 0 0 (.slice (some a) 0 cap) 0 [] (Src.ofSlice _ Tryz.underlying26 a 0 cap [] (by simp) (fun j u hj => by simp at hj) (fun u hu => by simp at hu)) (by omega) (fun j hj => absurd hj (by simp)) (fun j hj => absurd hj (by simp))
      rw [show ([] : List UInt8).length = 0 from rfl, this]
      simp [World.setCells]
  · obtain ⟨b, off, rfl, hb, hc⟩ := h.at_ h0
    obtain ⟨v', w', hr, ho, hg⟩ := own_bytes_append hO b off l.length cap (Lib.byteCells l) (Lib.byteCells_length l) (fun j u hj => by
      rw [getElem?_bytes] at hj
      have hjl : j < l.length := by
        rcases Nat.lt_or_ge j l.length with h | h
        · exact h
        · rw [List.getElem?_eq_none h] at hj; cases hj
      rw [List.getElem?_eq_getElem hjl] at hj
      simp at hj
      subst hj
      exact ((below_new w _).cell (p := ⟨b, off + j, none⟩) hb).trans (hc j hjl)) (one_bytes l) (by omega) (by simp)
    refine ⟨v', w', hr, ?_, (below_new w _).grown hg (by simp) (fun q hq => (hO.lt q hq).1), ?_⟩
    · simpa using ho
    · rcases ho.2 with ⟨rfl, h⟩ | ⟨g, cap', cur, rfl, _⟩
      · omega
      · exact ⟨g, cap', by simp⟩

/-- a slice of bytes below B -/
def BB (w : World) (B : Nat) (v : Value) (l : List UInt8) : Prop := Sl w B 1 v l.length fun i => .int .u8 (l.getD i 0).toNat
theorem BB.form {w : World} {B : Nat} {v : Value} {l : List UInt8} (h : BB w B v l) : ∃ ao cap, v = .slice ao l.length cap ∧ l.length ≤ cap ∧ cap ≤ maxLen := Sl.form h
theorem BB.at_ {w : World} {B : Nat} {ao : Option Addr} {n cap : Nat} {l : List UInt8} (h : BB w B (.slice ao n cap) l) (hn : 0 < l.length) :
    ∃ b off, ao = some ⟨b, off, none⟩ ∧ b < B ∧ B ≤ w.heap.size ∧ ∀ i (hi : i < l.length), w.cell? ⟨b, off + i, none⟩ = some (.int .u8 l[i].toNat) := by
  obtain ⟨b, off, h1, h2, h2', h3⟩ := Sl.at_ h hn
  exact ⟨b, off, h1, h2, h2', fun i hi => by rw [h3 i (by omega)]; simp [hi]⟩
theorem BB.drop {w : World} {B b off n cap : Nat} {l : List UInt8} (h : BB w B (.slice (some ⟨b, off, none⟩) n cap) l) (k : Nat) (hk : k ≤ l.length) : BB w B (.slice (some ⟨b, off + k, none⟩) (l.length - k) (cap - k)) (l.drop k) := by
  obtain ⟨ao', cap', hv, h1, h2, h3⟩ := h
  cases hv
  refine ⟨_, cap - k, by rw [List.length_drop], by rw [List.length_drop]; omega, by omega, ?_⟩
  rcases h3 with h3 | ⟨b', off', e, hb, hB, hc⟩
  · left; rw [List.length_drop]; omega
  · cases e
    refine .inr ⟨b, off + k, rfl, hb, hB, fun i hi => ?_⟩
    rw [List.length_drop] at hi
    have := hc (k + i) (by omega)
    rw [show off + k + i = off + (k + i) by omega, this]
    simp [List.getD_eq_getElem?_getD, List.getElem?_drop]
theorem BB.empty (w : World) (B : Nat) (a : Option Addr) : BB w B (.slice a 0 0) [] := ⟨a, 0, rfl, Nat.le_refl _, by decide, .inl rfl⟩
theorem BB.chg {w w' : World} {B : Nat} {v : Value} {l : List UInt8} (h : BB w B v l) {S : Nat → Prop} (hc : Chg S w w') (hB : B ≤ w.heap.size) (hs : ∀ k, k < B → ¬ S k) : BB w' B v l := Sl.below h (hc.below B hB hs) (Nat.le_refl _)

end Go.Proofs.YthkdjjejcbndnaaGreatDoor
