/-
  Encbuf: numbers of four bytes are put.
-/
import Derived.Test.YtkbkggamfkadnaaGreatDoorAwakeE
import Derived.Test.YtkbkggamfkadnaaGreatDoorRawLaw
import Derived.Deep.RegionWith
namespace Go.Proofs.YtkbkggamfkadnaaGreatDoor
set_option linter.unusedSimpArgs false
set_option linter.unusedVariables false
open Go.RowKit

set_option maxRecDepth 100000 in
set_option maxHeartbeats 2000000 in
theorem putBE32_any (p base x : Nat) (v : Value) (bs : List UInt8) (w : World) (h : Enc w p base v bs) (hx : x < 4294967296) (hn : bs.length ≤ 1000000000) (hbase : base ≤ w.heap.size) :
    Calls Tryz.prog 29 #[.pointer (some ⟨p, 0, none⟩), .int .u32 x] w fun e w' => e = .returned (.tuple #[]) ∧ ∃ v', Enc w' p base v' (bs ++ Lib.beBytes 4 x) ∧ Chg (fun k => k = p ∨ some k = v.ownBlock) w w' := by
  obtain ⟨⟨C, hb, hC⟩, ho, hlow⟩ := h
  have hlen : (Lib.beBytes 4 x).length = 4 := Lib.beBytes_length 4 x
  have hbc := Lib.byteCells_length (Lib.beBytes 4 x)
  rw [hlen] at hbc
  have hone := one_bytes (Lib.beBytes 4 x)
  have hap : Lib.byteCells (bs ++ Lib.beBytes 4 x) = Lib.byteCells bs ++ Lib.byteCells (Lib.beBytes 4 x) := by simp [Lib.byteCells]
  have hcl : ∀ j, j < 10 → ∃ u, w.cell? ⟨p, 1 + j, none⟩ = some u := fun j hj => ⟨C[j]'(by omega), by rw [hb.cell, Nat.add_comm 1 j, List.getElem?_cons_succ, List.getElem?_eq_getElem]⟩
  obtain ⟨x0, y0⟩ := hcl 0 (by omega)
  obtain ⟨x1, y1⟩ := hcl 1 (by omega)
  obtain ⟨x2, y2⟩ := hcl 2 (by omega)
  obtain ⟨x3, y3⟩ := hcl 3 (by omega)
  have hput := Tryz.binary_BE_PutUint32 p 1 10 10 x hx x0 x1 x2 x3 w.drew (by omega) y0 y1 y2 y3 (hb.free _) (hb.free _) (hb.free _) (hb.free _)
  have hbn := hb.drew.alloc (.cells #[] 105)
  have hon := own_alloc (own_drew ho) (.cells #[] 105)
  have hcn := (Chg.refl (fun k => k = p) w).drew.alloc (.cells #[] 105)
  generalize w.drew.alloc _ = W at *
  have hb1 := blk_setCells (Lib.byteCells (Lib.beBytes 4 x)) 1 _ _ hbn (by simp; omega)
  have hc1 := hcn.trans (chg_setCells p (Lib.byteCells (Lib.beBytes 4 x)) 1 W)
  have ho1 := own_chg hon (chg_setCells p (Lib.byteCells (Lib.beBytes 4 x)) 1 W) (fun g h1 _ => by omega)
  generalize hbs : Lib.byteCells (Lib.beBytes 4 x) = us at *
  generalize W.setCells p 1 us = w1 at *
  have hz1 := hc1.size
  obtain ⟨v', w2, hr, ho2, hg2⟩ := own_bytes_append (own_drew ho1) p 1 4 10 us hbc (fun j u hj => by
    have : w1.cell? ⟨p, 1 + j, none⟩ = some u := by
      rw [hb1.cell, List.append_assoc, List.getElem?_append_right (by simp), List.getElem?_append_left (by simp; have := (List.getElem?_eq_some_iff.1 hj).1; omega)]
      simpa using hj
    exact this) hone (by omega) (Nat.le_trans hbase hz1)
  obtain ⟨va, vc, rfl⟩ := own_form ho2
  have c0 : w1.cell? ⟨p, 0, none⟩ = some v := by rw [hb1.cell]; simp
  have hc2 : Chg (fun k => some k = v.ownBlock) w1 w2 := ((Chg.refl _ w1).drew).trans (Chg.ofGrown hg2)
  have hb2 := hb1.chg hc2 (fun c => by have := (ho1.lt p c.symm).1; omega)
  have z2 := hb2.free 0
  have e2 : w2.cell? ⟨p, 0, none⟩ = some v := by rw [hb2.cell]; simp
  have hb3 := hb2.set 0 (.slice va (bs.length + 4) vc)
  have hc3 := (((hc1.mono (T := fun k => k = p ∨ some k = v.ownBlock) fun k hk => .inl hk).trans (hc2.mono fun k hk => .inr hk)).setCell ⟨p, 0, none⟩ (.inl rfl) (.slice va (bs.length + 4) vc))
  have HR := Lib.hid hr
  have HB := Lib.hid hbc
  clear hr hbc
  go_enter Tryz.func29, Tryz.ntmps29
  go_wp2_with fail
  go_region_with (first | (go_at_call 73; refine hput.mono ?_; rintro e w' ⟨rfl, hw⟩; have hw := hw.symm; subst hw) | fail)
  go_wp2_with fail
  have hr := HR.out
  clear HR
  have d0 : w1.drew.cell? ⟨p, 0, none⟩ = some v := c0
  go_region_law (first | (refine step_run 22 22 rfl (.tmp 15) (.tmp 19) rfl rfl rfl rfl hr ?_) | fail)
  have hbc := HB.out
  go_end0
  refine ⟨rfl, _, ⟨⟨us ++ List.drop (1 + us.length) (v :: C), hb3, by simp; omega⟩, ?_, hlow⟩, hc3⟩
  rw [List.length_append, hlen, hap]
  exact own_chg ho2 (chg_set w2 p 0 (.slice va (bs.length + 4) vc)) (fun g h _ => by omega)
end Go.Proofs.YtkbkggamfkadnaaGreatDoor
