/-
  Encbuf: a number in groups of seven bits is put.
-/
import Derived.Test.YtkbkggamfkadnaaGreatDoorOwn
import Derived.Test.YtkbkggamfkadnaaGreatDoorShelf
import Derived.Deep.RegionLaw
namespace Go.Proofs.YtkbkggamfkadnaaGreatDoor
set_option linter.unusedSimpArgs false
set_option linter.unusedVariables false
open Go.RowKit

theorem infoU8 : (Tryz.prog.info? 5).map (fun i => (i.zero, i.size, i.bytes)) = some (some (.int .u8 0), 1, 1) := by kernel_rfl
/-- a list of bytes as cells -/
theorem one_bytes (l : List UInt8) : ∀ u ∈ Lib.byteCells l, u.oneCell' = true := by
  intro u hu
  unfold Lib.byteCells at hu
  obtain ⟨b, _, rfl⟩ := List.mem_map.1 hu
  rfl
/-- an Encbuf at block p: what it holds, in a row of its own -/
structure Enc (w : World) (p base : Nat) (v : Value) (bs : List UInt8) : Prop where
  blk : ∃ C, Blk w p (v :: C) 66 ∧ C.length = 10
  own : w.ownsRow base 5 1 v bs.length (Lib.byteCells bs)
  low : p < base

theorem blk_setCells {g : Nat} {t : TypeId} : ∀ (us : List Value) (j : Nat) (cs : List Value) (w : World), Blk w g cs t → j + us.length ≤ cs.length → Blk (w.setCells g j us) g (cs.take j ++ us ++ cs.drop (j + us.length)) t
  | [], j, cs, w, h, hl => by simpa [World.setCells] using h
  | u :: us, j, cs, w, h, hl => by
    have hl' : j < cs.length := by simp at hl; omega
    have h1 := blk_setCells us (j + 1) (cs.set j u) _ (h.set j u) (by simp at hl ⊢; omega)
    have e : (cs.set j u).take (j + 1) ++ us ++ (cs.set j u).drop (j + 1 + us.length) = cs.take j ++ (u :: us) ++ cs.drop (j + (u :: us).length) := by
      rw [List.drop_set_of_lt (by omega), List.take_set, List.length_cons]
      have : (cs.take (j + 1)).set j u = cs.take j ++ [u] := by
        rw [take_next hl', List.set_append_right _ _ (by simp; omega)]
        simp [Nat.min_eq_left (Nat.le_of_lt hl')]
      rw [this]
      simp [Nat.add_assoc, Nat.add_comm 1]
    rw [e] at h1
    exact h1
theorem chg_setCells (g : Nat) : ∀ (us : List Value) (j : Nat) (w : World), Chg (fun k => k = g) w (w.setCells g j us)
  | [], _, w => Chg.refl _ _
  | u :: us, j, w => (chg_set w g j u).trans (chg_setCells g us (j + 1) _)

theorem own_bytes_append {w : World} {base n : Nat} {v : Value} {xs : List Value} (hown : w.ownsRow base 5 1 v n xs) (p o m c : Nat) (news : List Value) (hl : news.length = m) (hc : ∀ j u, news[j]? = some u → w.cell? ⟨p, o + j, none⟩ = some u) (h1 : ∀ u ∈ news, u.oneCell' = true) (hn : n + m ≤ 2147483648) (hbase : base ≤ w.heap.size) :
    ∃ v' w', (Builtin.append_ #[22, 22] 22 #[v, .slice (some ⟨p, o, none⟩) m c]).run Tryz.prog w = .ok v' w' ∧ w'.ownsRow base 5 1 v' (n + m) (xs ++ news) ∧ w.grownBy w' v.ownBlock := by
  obtain ⟨i0, hi, hz0, hz1, hz2⟩ := info_parts infoU8
  obtain ⟨v', w', h1, h2, h3, _⟩ := run_append_own (P := Tryz.prog) w base 22 22 5 i0 _ 1 1 Tryz.underlying22 hi hz0 hz1 hz2 rfl (by decide) v n xs hown ⟨p, o, none⟩ m c news (by omega) (fun j u hj => by rw [add_cell]; exact hc j u hj) h1 (by unfold maxLen; omega) (by omega) hbase
  exact ⟨v', w', h1, h2, h3⟩

set_option maxRecDepth 100000 in
set_option maxHeartbeats 2000000 in
theorem putUvarint64_any (p base x : Nat) (v : Value) (bs : List UInt8) (w : World) (h : Enc w p base v bs) (hx : x < 18446744073709551616) (hn : bs.length ≤ 1000000000) (hbase : base ≤ w.heap.size) :
    Calls Tryz.prog 37 #[.pointer (some ⟨p, 0, none⟩), .int .u64 x] w fun e w' => e = .returned (.tuple #[]) ∧ ∃ v', Enc w' p base v' (bs ++ Lib.uvarint x) ∧ Chg (fun k => k = p ∨ some k = v.ownBlock) w w' := by
  obtain ⟨⟨C, hb, hC⟩, ho, hlow⟩ := h
  have hlen := Lib.uvarint_length64 hx
  have hbc := Lib.byteCells_length (Lib.uvarint x)
  have hone := one_bytes (Lib.uvarint x)
  have hap : Lib.byteCells (bs ++ Lib.uvarint x) = Lib.byteCells bs ++ Lib.byteCells (Lib.uvarint x) := by simp [Lib.byteCells]
  have hcell : ∀ j, j < (Lib.uvarint x).length → (w.cell? ⟨p, 1 + j, none⟩).isSome = true ∧ w.frozen? ⟨p, 1 + j, none⟩ = false := fun j hj => by
    rw [hb.cell, List.getElem?_eq_getElem (by simp; omega)]
    exact ⟨rfl, hb.free _⟩
  have hb1 := blk_setCells (Lib.byteCells (Lib.uvarint x)) 1 _ _ hb (by simp; omega)
  have hc1 := chg_setCells p (Lib.byteCells (Lib.uvarint x)) 1 w
  have ho1 := own_chg ho hc1 (fun g h1 _ => by omega)
  have hput := Tryz.binary_PutUvarint p 1 10 10 x hx w (by omega) hcell
  generalize hbs : Lib.byteCells (Lib.uvarint x) = us at *
  generalize w.setCells p 1 us = w1 at *
  generalize (Lib.uvarint x).length = n at *
  have hz1 := hc1.size
  obtain ⟨v', w2, hr, ho2, hg2⟩ := own_bytes_append (own_drew ho1) p 1 n 10 us hbc (fun j u hj => by
    have : w1.cell? ⟨p, 1 + j, none⟩ = some u := by
      rw [hb1.cell, List.append_assoc, List.getElem?_append_right (by simp), List.getElem?_append_left (by simp; have := (List.getElem?_eq_some_iff.1 hj).1; omega)]
      simpa using hj
    exact this) hone (by omega) (Nat.le_trans hbase hz1)
  obtain ⟨va, vc, rfl⟩ := own_form ho2
  have c0 : w1.cell? ⟨p, 0, none⟩ = some v := by rw [hb1.cell]; simp
  have hc2 : Chg (fun k => some k = v.ownBlock) w1 w2 := ((Chg.refl _ w1).drew).trans (Chg.ofGrown hg2)
  have hb2 := hb1.chg hc2 (fun c => by have := (ho1.lt p c.symm).1; omega)
  have z2 := hb2.free 0
  have e2 : w2.cell? ⟨p, 0, none⟩ = some v := by rw [hb2.cell]; simp
  have hb3 := hb2.set 0 (.slice va (bs.length + n) vc)
  have hc3 := (((hc1.mono (T := fun k => k = p ∨ some k = v.ownBlock) fun k hk => .inl hk).trans (hc2.mono fun k hk => .inr hk)).setCell ⟨p, 0, none⟩ (.inl rfl) (.slice va (bs.length + n) vc))
  have n0 : (0 : Int) ≤ (n : Int) := by omega
  have n1 : (n : Int) ≤ 10 := by omega
  have HR := Lib.hid hr
  have HB := Lib.hid hbc
  clear hr hbc
  go_enter Tryz.func37, Tryz.ntmps37
  go_wp2_with (first | (go_at_call 77; refine hput.mono ?_; rintro e w' ⟨rfl, hw⟩; have hw := hw.symm; subst hw) | fail)
  have hr := HR.out
  clear HR
  have d0 : w1.drew.cell? ⟨p, 0, none⟩ = some v := c0
  go_region_law (first | (refine step_run 22 22 rfl (.tmp 15) (.tmp 20) rfl rfl rfl rfl hr ?_) | fail)
  have hbc := HB.out
  have hE : (bs ++ Lib.uvarint x).length = bs.length + n := by
    rw [List.length_append]
    have := congrArg List.length hbs
    rw [Lib.byteCells_length] at this
    omega
  go_end0
  refine ⟨rfl, _, ⟨⟨us ++ List.drop (1 + us.length) (v :: C), hb3, by simp; omega⟩, ?_, hlow⟩, hc3⟩
  rw [hE, hap]
  exact own_chg ho2 (chg_set w2 p 0 (.slice va (bs.length + n) vc)) (fun g h _ => by omega)
end Go.Proofs.YtkbkggamfkadnaaGreatDoor
