/-
  Bytes as a string.
-/
import Derived.Test.YtkbkggamfkadnaaGreatDoorPad
namespace Go.Proofs.YtkbkggamfkadnaaGreatDoor
set_option linter.unusedSimpArgs false
set_option linter.unusedVariables false
open Go.RowKit

theorem conv_bytes (w : World) (v : Value) (l : List UInt8) (h : Bytes w v l) (hl : 0 < l.length) (s : ByteArray) (hs : strOfNums (l.map fun b => (b.toNat : Int)) = s) :
    (convert 22 9 v).run Tryz.prog w = .ok (.string s) w := by
  subst hs
  obtain ⟨ao, cap, rfl, h1, h2⟩ := h.form
  obtain ⟨b, off, rfl, hb, hc⟩ := h.at_ hl
  exact run_convert_bytes_arg w 22 5 Tryz.underlying22 Tryz.underlying5 b off l.length cap _ (by simp) (fun i hi => by rw [hc i hi]; simp [List.getD_eq_getElem?_getD, hi]) 9 Tryz.underlying9

end Go.Proofs.YtkbkggamfkadnaaGreatDoor
