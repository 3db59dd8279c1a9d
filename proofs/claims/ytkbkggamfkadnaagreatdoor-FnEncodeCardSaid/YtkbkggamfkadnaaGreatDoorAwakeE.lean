/-
  The third part of indexAwake: 300 in groups of seven bits has two bytes. And: bytes are copied.
-/
import Derived.Test.YtkbkggamfkadnaaGreatDoorEnc
namespace Go.Proofs.YtkbkggamfkadnaaGreatDoor
set_option linter.unusedSimpArgs false
set_option linter.unusedVariables false
open Go.RowKit

/-- a slice of bytes -/
def Bytes (w : World) (v : Value) (l : List UInt8) : Prop := Sl w w.heap.size 1 v l.length fun i => .int .u8 (l.getD i 0).toNat
theorem Bytes.up {w w' : World} {v : Value} {l : List UInt8} (h : Bytes w v l) (hb : Below w.heap.size w w') : Bytes w' v l := Sl.up h hb
theorem Bytes.form {w : World} {v : Value} {l : List UInt8} (h : Bytes w v l) : ∃ ao cap, v = .slice ao l.length cap ∧ l.length ≤ cap ∧ cap ≤ maxLen := Sl.form h
theorem Bytes.at_ {w : World} {ao : Option Addr} {n cap : Nat} {l : List UInt8} (h : Bytes w (.slice ao n cap) l) (hn : 0 < l.length) :
    ∃ b off, ao = some ⟨b, off, none⟩ ∧ b < w.heap.size ∧ ∀ i (hi : i < l.length), w.cell? ⟨b, off + i, none⟩ = some (.int .u8 l[i].toNat) := by
  obtain ⟨b, off, h1, h2, h2', h3⟩ := Sl.at_ h hn
  exact ⟨b, off, h1, h2, fun i hi => by rw [h3 i (by omega)]; simp [hi]⟩
theorem getElem?_bytes (l : List UInt8) (j : Nat) : (Lib.byteCells l)[j]? = (l[j]?).map fun b => Value.int .u8 b.toNat := by simp [Lib.byteCells]
theorem Bytes.own {w : World} {base n : Nat} {v : Value} {l : List UInt8} (h : w.ownsRow base 5 1 v n (Lib.byteCells l)) : Bytes w v l := by
  have hn : l.length = n := by have := h.1; rw [Lib.byteCells_length] at this; omega
  unfold Bytes
  rw [hn]
  refine (Sl.own h).congr fun i hi => ?_
  have hl : i < l.length := by omega
  rw [List.getD_eq_getElem?_getD, getElem?_bytes, List.getElem?_eq_getElem hl]
  simp [hl]

theorem copy_bytes (w : World) (v : Value) (l : List UInt8) (h : Bytes w v l) (hl : l.length ≤ 2147483647) :
    ∃ v' w', (Builtin.append_ #[22, 22] 22 #[.slice (some ⟨w.heap.size, 0, none⟩) 0 0, v]).run Tryz.prog (w.alloc (.cells #[] 5)) = .ok v' w' ∧ w'.ownsRow w.heap.size 5 1 v' l.length (Lib.byteCells l) ∧ Below w.heap.size w w' ∧ ∃ g c, v' = .slice (some ⟨g, 0, none⟩) l.length c := by
  obtain ⟨ao, cap, rfl, h1, h2⟩ := h.form
  have hO := own_empty w 5 1
  rcases Nat.eq_zero_or_pos l.length with h0 | h0
  · have : l = [] := List.length_eq_zero_iff.1 h0
    subst this
    obtain ⟨i0, hi, hz0, hz1, hz2⟩ := info_parts infoU8
    cases ao with
    | none =>
      refine ⟨_, w.alloc (.cells #[] 5), ?_, hO, below_new w _, _, _, rfl⟩
      have := run_append_room_src (P := Tryz.prog) (w := w.alloc (.cells #[] 5)) 22 22 22 5 i0 Tryz.underlying22 hi w.heap.size 0 0 0 (.slice none 0 cap) 0 [] (Src.ofNil _ Tryz.underlying22 cap) (by omega) (fun j hj => absurd hj (by simp)) (fun j hj => absurd hj (by simp))
      rw [show ([] : List UInt8).length = 0 from rfl, this]
      simp [World.setCells]
    | some a =>
      refine ⟨_, w.alloc (.cells #[] 5), ?_, hO, below_new w _, _, _, rfl⟩
      have := run_append_room_src (P := Tryz.prog) (w := w.alloc (.cells #[] 5)) 22 22 22 5 i0 Tryz.underlying22 hi w.heap.size 0 0 0 (.slice (some a) 0 cap) 0 [] (Src.ofSlice _ Tryz.underlying22 a 0 cap [] (by simp) (fun j u hj => by simp at hj) (fun u hu => by simp at hu)) (by omega) (fun j hj => absurd hj (by simp)) (fun j hj => absurd hj (by simp))
      rw [show ([] : List UInt8).length = 0 from rfl, this]
      simp [World.setCells]
  · obtain ⟨b, off, rfl, hb, hc⟩ := h.at_ h0
    obtain ⟨v', w', hr, ho, hg⟩ := own_bytes_append hO b off l.length cap (Lib.byteCells l) (Lib.byteCells_length l) (fun j u hj => by
      rw [getElem?_bytes] at hj
      have hjl : j < l.length := by
        rcases Nat.lt_or_ge j l.length with h | h
        · exact h
        · rw [List.getElem?_eq_none h] at hj; cases hj
      rw [List.getElem?_eq_getElem hjl] at hj
      simp at hj
      subst hj
      exact ((below_new w _).cell (p := ⟨b, off + j, none⟩) hb).trans (hc j hjl)) (one_bytes l) (by omega) (by simp)
    refine ⟨v', w', hr, ?_, (below_new w _).grown hg (by simp) (fun q hq => (hO.lt q hq).1), ?_⟩
    · simpa using ho
    · rcases ho.2 with ⟨rfl, h⟩ | ⟨g, cap', cur, rfl, _⟩
      · omega
      · exact ⟨g, cap', by simp⟩

theorem encGet_any (p base : Nat) (v : Value) (bs : List UInt8) (w : World) (h : Enc w p base v bs) :
    Calls Tryz.prog 42 #[.pointer (some ⟨p, 0, none⟩)] w fun e w' => e = .returned v ∧ w = w' := by
  obtain ⟨⟨C, hb, hC⟩, ho, hlow⟩ := h
  obtain ⟨va, vc, rfl⟩ := own_form ho
  have c0 := hb.cell 0
  go_enter Tryz.func42, Tryz.ntmps42
  go_wp2_with fail
  go_ret
  exact ⟨rfl, rfl⟩

abbrev encZero : List Value := [.slice none 0 0, .int .u8 0, .int .u8 0, .int .u8 0, .int .u8 0, .int .u8 0, .int .u8 0, .int .u8 0, .int .u8 0, .int .u8 0, .int .u8 0]
theorem Enc.new (w : World) : Enc (w.alloc (.cells encZero.toArray 66)) w.heap.size (w.heap.size + 1) (.slice none 0 0) [] :=
  ⟨⟨_, Blk.new w _ _, rfl⟩, World.ownsRow_nil _ _ _ _, by omega⟩
theorem Enc.chg {w w' : World} {p base : Nat} {v : Value} {bs : List UInt8} (h : Enc w p base v bs) {S : Nat → Prop} (hc : Chg S w w') (hp : ¬ S p) (hs : ∀ g, base ≤ g → v.ownBlock = some g → ¬ S g) : Enc w' p base v bs := by
  obtain ⟨⟨C, hb, hC⟩, ho, hlow⟩ := h
  exact ⟨⟨C, hb.chg hc hp, hC⟩, own_chg ho hc hs, hlow⟩

set_option maxRecDepth 100000 in
set_option maxHeartbeats 4000000 in
theorem encode_awake (q : Nat) (w : World) (hq : Blk w q [.int .i64 8, .int .u64 300, .slice none 0 0] 28) :
    Calls Tryz.prog 11 #[.slice (some ⟨q, 0, none⟩) 1 1] w fun e w' => ∃ v', e = .returned v' ∧ w'.ownsRow w.heap.size 5 1 v' 2 (Lib.byteCells (Lib.uvarint 300)) ∧ Below w.heap.size w w' := by
  have hqw := hq.lt
  have hE := Enc.new w
  have hbA := below_new w (.cells encZero.toArray 66)
  have hqA := hq.alloc (.cells encZero.toArray 66)
  have c0 := hqA.cell 0
  have c1 := hqA.cell 1
  have c2 := hqA.cell 2
  go_enter Tryz.func11, Tryz.ntmps11
  go_wp2_with fail
  generalize hb0 : w.heap.size = b0 at *
  generalize w.alloc _ = W at *
  have hzW := hbA.size
  have hE1 := hE.chg ((Chg.refl (fun _ => False) W).alloc (.cells #[.int .i64 8, .int .u64 300, .slice none 0 0] 28)) (fun h => h) (fun _ _ _ h => h)
  have hWb : b0 + 1 ≤ W.heap.size := by have := hE.blk; obtain ⟨C, h, _⟩ := this; have := h.lt; omega
  refine wp_loop_rounds 2 ?_
  rw [rounds_succ]
  go_wp2_with (first | (go_at_call 37; refine (putUvarint64_any b0 (b0 + 1) 300 _ [] _ hE1 (by omega) (by simp) (by simp; omega)).mono ?_; rintro e w1 ⟨rfl, v1, hE2, hc1⟩) | fail)
  obtain ⟨va, vc, rfl⟩ := own_form hE2.own
  have hb1 : Below b0 w w1 := (hbA.trans ((Below.refl b0 W).alloc (by omega) _)).trans (hc1.below b0 (by simp; omega) (fun k hk h => by
    rcases h with h | h
    · omega
    · cases h))
  clear hE1 hE hc1 c0 c1 c2 hqA hbA
  rw [rounds_succ]
  have hE3 := hE2.chg ((Chg.refl (fun _ => False) w1).alloc (.cells #[] 5)) (fun h => h) (fun _ _ _ h => h)
  obtain ⟨v2, w2, hr, ho, hb2, hv2⟩ := copy_bytes w1 _ _ (Bytes.own hE2.own) (by simp [Lib.uvarint_big, Lib.uvarint_small])
  have HR := Lib.hid hr
  clear hr
  go_wp2_with (first
    | (go_at_call 42; refine (encGet_any _ _ _ _ _ hE3).mono ?_; rintro e w' ⟨rfl, rfl⟩)
    | (at_builtin; refine list_run 22 22 rfl (.tmp 90) (.tmp 91) rfl rfl rfl rfl HR.out ?_)
    | fail)
  go_ret
  subst hb0
  refine ⟨_, rfl, ?_, bnx hb1 hb2⟩
  have := own_base ho hb1.size
  simpa [Lib.uvarint_big, Lib.uvarint_small] using this
end Go.Proofs.YtkbkggamfkadnaaGreatDoor
