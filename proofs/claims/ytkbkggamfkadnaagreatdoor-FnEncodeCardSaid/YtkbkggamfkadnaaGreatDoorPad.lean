/-
  Slices of bytes below a block; what a Decbuf holds.
-/
import Derived.Test.YtkbkggamfkadnaaGreatDoorAwake
import Derived.Deep.LoopGhost
import Derived.Laws.BytesArg
namespace Go.Proofs.YtkbkggamfkadnaaGreatDoor
set_option linter.unusedSimpArgs false
set_option linter.unusedVariables false
open Go.RowKit

/-- a slice of bytes below B -/
def BB (w : World) (B : Nat) (v : Value) (l : List UInt8) : Prop := Sl w B 1 v l.length fun i => .int .u8 (l.getD i 0).toNat
theorem BB.form {w : World} {B : Nat} {v : Value} {l : List UInt8} (h : BB w B v l) : ∃ ao cap, v = .slice ao l.length cap ∧ l.length ≤ cap ∧ cap ≤ maxLen := Sl.form h
theorem BB.at_ {w : World} {B : Nat} {ao : Option Addr} {n cap : Nat} {l : List UInt8} (h : BB w B (.slice ao n cap) l) (hn : 0 < l.length) :
    ∃ b off, ao = some ⟨b, off, none⟩ ∧ b < B ∧ B ≤ w.heap.size ∧ ∀ i (hi : i < l.length), w.cell? ⟨b, off + i, none⟩ = some (.int .u8 l[i].toNat) := by
  obtain ⟨b, off, h1, h2, h2', h3⟩ := Sl.at_ h hn
  exact ⟨b, off, h1, h2, h2', fun i hi => by rw [h3 i (by omega)]; simp [hi]⟩
theorem cell_lt {w : World} {b o : Nat} {v : Value} (h : w.cell? ⟨b, o, none⟩ = some v) : b < w.heap.size := by
  rcases Nat.lt_or_ge b w.heap.size with h1 | h1
  · exact h1
  · unfold World.cell? at h
    simp [Array.getElem?_eq_none h1] at h
abbrev DT : TypeId := 59
abbrev EG : Nat := 0
abbrev EC : Nat := 1

theorem decErr_any (D : Nat) (v E : Value) (w : World) (hD : Blk w D [v, E] DT) (hE : E = .nilIface ∨ ∃ t u, E = .iface t u) :
    Calls Tryz.prog 27 #[.pointer (some ⟨D, 0, none⟩)] w fun e w' => e = .returned E ∧ w = w' := by
  have c1 := hD.cell 1
  rcases hE with rfl | ⟨t, u, rfl⟩
  all_goals
    go_enter Tryz.func27, Tryz.ntmps27
    go_wp2_with fail
    go_ret
    exact ⟨rfl, rfl⟩
theorem decGet_any (D : Nat) (a : Option Addr) (n c : Nat) (E : Value) (w : World) (hD : Blk w D [.slice a n c, E] DT) :
    Calls Tryz.prog 51 #[.pointer (some ⟨D, 0, none⟩)] w fun e w' => e = .returned (.slice a n c) ∧ w = w' := by
  have c0 := hD.cell 0
  go_enter Tryz.func51, Tryz.ntmps51
  go_wp2_with fail
  go_ret
  exact ⟨rfl, rfl⟩

end Go.Proofs.YtkbkggamfkadnaaGreatDoor
