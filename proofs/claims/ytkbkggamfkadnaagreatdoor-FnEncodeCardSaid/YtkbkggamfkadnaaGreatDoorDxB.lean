/-
  impl.get: a datum that is bytes; bytes that are left out. impl.get: a datum that is bytes; bytes that are left out. impl.get: bytes that are left out; any datum. The closure of impl.Decode; Len and Err of a Decbuf.
-/
import Derived.Test.YtkbkggamfkadnaaGreatDoorDx5
import Derived.Test.YtkbkggamfkadnaaGreatDoorWPadding
import Derived.Lib.ConvBytes
import Derived.Test.YtkbkggamfkadnaaGreatDoorSafe2
namespace Go.Proofs.YtkbkggamfkadnaaGreatDoor
set_option linter.unusedSimpArgs false
set_option linter.unusedVariables false
open Go.RowKit

theorem conv_all (w : World) (v : Value) (l : List UInt8) (h : Bytes w v l) (s : ByteArray) (hs : strOfNums (l.map fun b => (b.toNat : Int)) = s) :
    (convert 22 9 v).run Tryz.prog w = .ok (.string s) w := by
  rcases Nat.eq_zero_or_pos l.length with h0 | h0
  · obtain ⟨ao, cap, rfl, h1, h2⟩ := h.form
    have : l = [] := List.length_eq_zero_iff.1 h0
    subst this
    rw [show ([] : List UInt8).length = 0 from rfl, run_convert_bytes_string w 22 9 5 _ 0 cap Tryz.underlying22 Tryz.underlying5 Tryz.underlying9]
    subst hs
    cases ao <;> rfl
  · exact conv_bytes w v l h h0 s hs
/-- bytes in a block of their own, of bytes alone -/
def OB (w : World) (v : Value) (s : List UInt8) : Prop := Bytes w v s ∧ (s = [] ∨ ∃ b n c cs fr, v = .slice (some ⟨b, 0, none⟩) n c ∧ w.heap[b]? = some (.cells cs 5 fr))
theorem OB.chg {w w' : World} {v : Value} {s : List UInt8} (h : OB w v s) {S : Nat → Prop} (hc : Chg S w w') (hS : ∀ k cs fr, w.heap[k]? = some (.cells cs 5 fr) → ¬ S k) : OB w' v s := by
  obtain ⟨h1, h2⟩ := h
  rcases h2 with rfl | ⟨b, n, c, cs, fr, rfl, h2⟩
  · refine ⟨?_, .inl rfl⟩
    obtain ⟨ao, c1, e1, g1, g2⟩ := h1.form
    exact ⟨ao, c1, e1, g1, g2, .inl rfl⟩
  · have hb := hc.block b (lt_blk h2) (hS b cs fr h2)
    refine ⟨?_, .inr ⟨b, n, c, cs, fr, rfl, by rw [hb]; exact h2⟩⟩
    obtain ⟨ao, cap, e, g1, g2, g3⟩ := h1
    cases e
    refine ⟨_, _, rfl, g1, g2, ?_⟩
    rcases g3 with g3 | ⟨b', off, e, g4, g5, g6⟩
    · exact .inl g3
    · cases e
      exact .inr ⟨b, 0, rfl, Nat.lt_of_lt_of_le g4 hc.size, Nat.le_refl _, fun i hi => (World.cell?_of_block hb).trans (g6 i hi)⟩
theorem OB.own {w : World} {base n : Nat} {v : Value} {s : List UInt8} (h : w.ownsRow base 5 1 v n (Lib.byteCells s)) : OB w v s := by
  refine ⟨Bytes.own h, ?_⟩
  obtain ⟨hl, ⟨rfl, hs⟩ | ⟨g, cap, cur, rfl, h1, h2, _⟩⟩ := h
  · left
    rw [Lib.byteCells_length, hs] at hl
    exact List.length_eq_zero_iff.1 (by simpa using hl)
  · exact .inr ⟨g, n, cap, _, _, rfl, h2⟩
theorem strOfNums_list (s : List UInt8) : (strOfNums (s.map fun b => (b.toNat : Int))).data.toList = s := by
  rw [strOfNums_data, List.map_map]
  conv => rhs; rw [← List.map_id s]
  refine List.map_congr_left fun b _ => ?_
  simp
/-- a string as bytes -/
theorem conv_out (w : World) (s : ByteArray) (hs : s.size ≤ 2147483647) : ∃ a n c W, (convert 9 22 (.string s)).run Tryz.prog w = .ok (.slice a n c) W ∧ OB W (.slice a n c) s.data.toList ∧ Below w.heap.size w W := by
  refine ⟨_, _, _, _, Lib.run_convert_string_bytes w 9 22 5 s Tryz.underlying9 Tryz.underlying22 Tryz.underlying5, ⟨?_, .inr ⟨_, _, _, _, _, rfl, Lib.bytesWorld_at_new w 5 s⟩⟩, ⟨rfl, rfl, rfl, by rw [Lib.bytesWorld_size]; omega, fun k hk => Lib.bytesWorld_at_old w _ s k hk⟩⟩
  have hl : s.data.toList.length = s.size := by rw [Array.length_toList]; rfl
  unfold Bytes
  rw [hl]
  refine ⟨_, _, rfl, by simpa using grownCap_ge w s.size 0 5, by simpa using grownCap_le_maxLen w s.size 0 5 (by unfold maxLen; omega), ?_⟩
  refine .inr ⟨w.heap.size, 0, rfl, by rw [Lib.bytesWorld_size]; omega, Nat.le_refl _, fun i hi => ?_⟩
  rw [Nat.zero_add, Lib.bytesWorld_cell w 5 s i (by omega)]

set_option maxRecDepth 100000 in
set_option maxHeartbeats 2000000 in
theorem ustr_any (D : Nat) (m : List UInt8) (E : Value) (w : World) (h : DSt D w m E) (hE : E = .nilIface ∨ ∃ t u, E = .iface t u) (hl : m.length ≤ 2147483647) (hg : ErrV w) (hne : EG ≠ D) (hX : E = .nilIface → ∀ X r, decU m = some (X, r) → X < 2147483648) :
    Calls Tryz.prog 70 #[.pointer (some ⟨D, 0, none⟩)] w fun e w' => ∃ s : List UInt8, ∃ S, e = .returned (.string S) ∧ S.data.toList = s ∧ ((∃ r, E = .nilIface ∧ decS m = some (s, r) ∧ DSt D w' r .nilIface) ∨ ((E ≠ .nilIface ∨ decS m = none) ∧ s = [] ∧ ∃ m t u, m.length ≤ 2147483647 ∧ DSt D w' m (.iface t u))) ∧ Chg (fun q => q = D) w w' := by
  have hU := ubytes_any D m E w h hE hl hg hne hX
  go_enter Tryz.func70, Tryz.ntmps70
  go_wp2_with fail
  refine hU.mono ?_
  rintro e w1 ⟨a, k, c, rfl, hd, hc1⟩
  rcases hd with ⟨s, r, h1, h2, h3, h4⟩ | ⟨h1, h2, h3⟩
  · have hB : Bytes w1 (.slice a k c) s := Sl.mono h3 (Nat.le_of_lt h4.lt) (Nat.le_refl _)
    have hcv := conv_all w1 _ s hB _ rfl
    have hL := strOfNums_list s
    generalize strOfNums (s.map fun b => (b.toNat : Int)) = S at *
    have HL := Lib.hid hL
    clear hL
    go_wp2_with fail
    go_ret
    exact ⟨s, S, rfl, HL.out, .inl ⟨r, h1, h2, h4⟩, hc1⟩
  · have hcv := conv_all w1 _ [] h2 _ rfl
    have hL := strOfNums_list []
    generalize strOfNums (([] : List UInt8).map fun b => (b.toNat : Int)) = S at *
    have HL := Lib.hid hL
    clear hL
    go_wp2_with fail
    go_ret
    exact ⟨[], S, rfl, HL.out, .inr ⟨h1, rfl, h3⟩, hc1⟩
end Go.Proofs.YtkbkggamfkadnaaGreatDoor
namespace Go.Proofs.YtkbkggamfkadnaaGreatDoor
set_option linter.unusedSimpArgs false
set_option linter.unusedVariables false
open Go.RowKit

/-- what impl.get has done: bytes s in v, or an error -/
def GRs (D : Nat) (w' : World) (E : Value) (o : Option (List UInt8 × List UInt8)) (v : Value) : Prop :=
  (∃ s r, E = .nilIface ∧ o = some (s, r) ∧ OB w' v s ∧ DSt D w' r .nilIface) ∨ ((E ≠ .nilIface ∨ o = none) ∧ ∃ m t u, m.length ≤ 2147483647 ∧ DSt D w' m (.iface t u))
theorem GRs.chg {D B : Nat} {w w' : World} {E : Value} {o : Option (List UInt8 × List UInt8)} {v : Value} (h : GRs D w E o v) {S : Nat → Prop} (hc : Chg S w w') (hs : ∀ k, k ≤ D → ¬ S k) (hS : ∀ k cs fr, w.heap[k]? = some (.cells cs 5 fr) → ¬ S k) : GRs D w' E o v := by
  rcases h with ⟨s, r, h1, h2, h3, h4⟩ | ⟨h1, m, t, u, h3, h4⟩
  · exact .inl ⟨s, r, h1, h2, h3.chg hc hS, h4.chg hc hs⟩
  · exact .inr ⟨h1, m, t, u, h3, h4.chg hc hs⟩
theorem decS_len {m s r : List UInt8} (h : decS m = some (s, r)) : s.length ≤ m.length := by
  unfold decS at h
  split at h
  · cases h
  · rename_i X r' hd
    split at h
    · injection h with h
      injection h with h1 h2
      subst h1
      obtain ⟨_, _, rfl⟩ := decU_some hd
      rw [List.length_take, List.length_drop]
      omega
    · cases h
theorem Blk.tyne {w : World} {g : Nat} {cs : List Value} {t e : TypeId} (h : Blk w g cs t) (hne : t ≠ e) : ∀ cs' fr, w.heap[g]? ≠ some (.cells cs' e fr) := by
  intro cs' fr h'
  unfold Blk at h
  rw [h] at h'
  injection h' with h'
  injection h' with _ h' _
  exact hne h'
theorem copy_into (w : World) (g : Nat) (v : Value) (l : List UInt8) (hg : w.heap[g]? = some (.cells #[] 5 (0, 0))) (h : Bytes w v l) (hl : l.length ≤ 2147483647) :
    ∃ a n c w', (Builtin.append_ #[22, 22] 22 #[.slice (some ⟨g, 0, none⟩) 0 0, v]).run Tryz.prog w = .ok (.slice a n c) w' ∧ w'.ownsRow 0 5 1 (.slice a n c) l.length (Lib.byteCells l) ∧ Chg (fun q => q = g) w w' := by
  obtain ⟨ao, cap, rfl, h1, h2⟩ := h.form
  have hO : w.ownsRow 0 5 1 (.slice (some ⟨g, 0, none⟩) 0 0) 0 [] := ⟨by simp, .inr ⟨g, 0, #[], rfl, Nat.zero_le _, hg, Nat.le_refl _, by decide, by simp, by simp⟩⟩
  rcases Nat.eq_zero_or_pos l.length with h0 | h0
  · have : l = [] := List.length_eq_zero_iff.1 h0
    subst this
    obtain ⟨i0, hi, hz0, hz1, hz2⟩ := info_parts infoU8
    refine ⟨_, _, _, w, ?_, hO, Chg.refl _ _⟩
    cases ao with
    | none =>
      have := run_append_room_src (P := Tryz.prog) (w := w) 22 22 22 5 i0 Tryz.underlying22 hi g 0 0 0 (.slice none 0 cap) 0 [] (Src.ofNil _ Tryz.underlying22 cap) (by omega) (fun j hj => absurd hj (by simp)) (fun j hj => absurd hj (by simp))
      rw [show ([] : List UInt8).length = 0 from rfl, this]
      simp [World.setCells]
    | some a =>
      have := run_append_room_src (P := Tryz.prog) (w := w) 22 22 22 5 i0 Tryz.underlying22 hi g 0 0 0 (.slice (some a) 0 cap) 0 [] (Src.ofSlice _ Tryz.underlying22 a 0 cap [] (by simp) (fun j u hj => by simp at hj) (fun u hu => by simp at hu)) (by omega) (fun j hj => absurd hj (by simp)) (fun j hj => absurd hj (by simp))
      rw [show ([] : List UInt8).length = 0 from rfl, this]
      simp [World.setCells]
  · obtain ⟨b, off, rfl, hb, hc⟩ := h.at_ h0
    obtain ⟨v', w', hr, ho, hgr⟩ := own_bytes_append hO b off l.length cap (Lib.byteCells l) (Lib.byteCells_length l) (fun j u hj => by
      rw [getElem?_bytes] at hj
      have hjl : j < l.length := by
        rcases Nat.lt_or_ge j l.length with h | h
        · exact h
        · rw [List.getElem?_eq_none h] at hj; cases hj
      rw [List.getElem?_eq_getElem hjl] at hj
      simp at hj
      subst hj
      exact hc j hjl) (one_bytes l) (by omega) (Nat.zero_le _)
    obtain ⟨a2, c2, rfl⟩ := own_form ho
    refine ⟨_, _, _, w', hr, by simpa using ho, ?_⟩
    exact ((Chg.ofGrown hgr).mono fun q hq => by simpa [Value.ownBlock] using hq)
theorem BB.bytes {w : World} {D : Nat} {v : Value} {l : List UInt8} (h : BB w D v l) (hD : D ≤ w.heap.size) : Bytes w v l := Sl.mono h hD (Nat.le_refl _)

set_option maxRecDepth 100000 in
set_option maxHeartbeats 4000000 in
theorem get10 (D : Nat) (m : List UInt8) (E : Value) (N : Int) (S : Value) (hS : ∃ a n c, S = .slice a n c) (w : World) (h : DSt D w m E) (hE : E = .nilIface ∨ ∃ t u, E = .iface t u) (hl : m.length ≤ 2147483647) (hg : ErrV w) (hne : EG ≠ D) (hX : E = .nilIface → ∀ X r, decU m = some (X, r) → X < 2147483648) :
    Calls Tryz.prog 25 #[.pointer (some ⟨D, 0, none⟩), .agg #[.int .i64 10, .int .u64 N, S]] w fun e w' => ∃ a n c, e = .returned (.agg #[.int .i64 10, .int .u64 0, .slice a n c]) ∧ GRs D w' E (decS m) (.slice a n c) ∧ Chg (fun q => q = D) w w' := by
  obtain ⟨sa, sn, sc, rfl⟩ := hS
  obtain ⟨W, hWe, b0, b1, b2, hsz, hB⟩ := get_cells w 10 N (.slice sa sn sc)
  have HW := Lib.hid hWe.symm
  have hlt := h.lt
  have e0 := b0.cell 0
  have hs1 : W.heap.size ≤ w.heap.size + 3 := by omega
  have hs2 : w.heap.size + 3 ≤ W.heap.size := by omega
  clear hWe hsz
  have hG := ustr_any D m E W (h.low hB) hE hl (hg.low hB) hne hX
  go_enter Tryz.func25, Tryz.ntmps25
  go_upto_region 2 with fail
  rw [HW.out]
  go_wp2_with fail
  refine hG.mono ?_
  rintro e w1 ⟨s, Sx, rfl, hsx, hd, hc⟩
  have hsl : Sx.size ≤ 2147483647 := by
    have : Sx.size = s.length := by rw [← hsx, Array.length_toList]; rfl
    rw [this]
    rcases hd with ⟨r, _, hd, _⟩ | ⟨_, rfl, _⟩
    · have := decS_len hd
      omega
    · simp
  obtain ⟨a, n, c, w2, hcv, hob, hb2⟩ := conv_out w1 Sx hsl
  rw [hsx] at hob
  have HSX := Lib.hid hsx
  clear hsx hG
  have hres : GRs D w2 E (decS m) (.slice a n c) := by
    rcases hd with ⟨r, h1, h2, h3⟩ | ⟨h1, _, m1, t1, u1, h2, h3⟩
    · exact .inl ⟨s, r, h1, h2, hob, h3.low hb2⟩
    · exact .inr ⟨h1, m1, t1, u1, h2, h3.low hb2⟩
  have d1 := (b1.chg hc (by omega)).chg (Chg.ofBelow hb2) (by have := hc.size; omega)
  have d2 := (b2.chg hc (by omega)).chg (Chg.ofBelow hb2) (by have := hc.size; omega)
  have hcw : Chg (fun q => q = D) w w2 := ⟨hb2.os.trans (hc.os.trans hB.os), hb2.tape.trans (hc.tape.trans hB.tape), hb2.output.trans (hc.output.trans hB.output), by have := hc.size; have := hb2.size; omega, fun q hq hn => by rw [hb2.block q (by have := hc.size; omega), hc.block q (by omega) hn, hB.block q hq]⟩
  have i0 := d2.cell 0
  have i1 := d2.cell 1
  have i2 := d2.cell 2
  have z2 := d2.free 2
  have j0 := d1.free 0
  have j1 := d1.free 1
  have j2 := d1.free 2
  have c0 := d1.cell 0
  have c1 := d1.cell 1
  have c2 := d1.cell 2
  have HRES := Lib.hid hres
  clear hres
  go_wp2_with fail
  have hF := (((d1.chg (chg_set w2 (w.heap.size + 1 + 1) 2 (.slice a n c)) (by omega)).set 0 (.int .i64 10)).set 1 (.int .u64 0)).set 2 (.slice a n c)
  have r0 := hF.cell 0
  have r1 := hF.cell 1
  have r2 := hF.cell 2
  have hcs : Chg (fun q => q = w.heap.size + 1 ∨ q = w.heap.size + 1 + 1) w2 ((((w2.setCell ⟨w.heap.size + 1 + 1, 2, none⟩ (.slice a n c)).setCell ⟨w.heap.size + 1, 0, none⟩ (.int .i64 10)).setCell ⟨w.heap.size + 1, 1, none⟩ (.int .u64 0)).setCell ⟨w.heap.size + 1, 2, none⟩ (.slice a n c)) := ((((Chg.refl (fun q => q = w.heap.size + 1 ∨ q = w.heap.size + 1 + 1) w2).setCell ⟨w.heap.size + 1 + 1, 2, none⟩ (.inr rfl) _).setCell ⟨w.heap.size + 1, 0, none⟩ (.inl rfl) _).setCell ⟨w.heap.size + 1, 1, none⟩ (.inl rfl) _).setCell ⟨w.heap.size + 1, 2, none⟩ (.inl rfl) _
  refine bodyPost_ret (v := .agg #[.int .i64 10, .int .u64 0, .slice a n c]) (by simp [results, Tryz.results25, go_sem, r0, r1, r2]) rfl ⟨a, n, c, rfl, HRES.out.chg (B := 0) hcs (fun q hq => by omega) (fun q cs fr hq => ?_), ?_⟩
  · rintro (rfl | rfl)
    · exact d1.tyne (by decide) cs fr hq
    · exact d2.tyne (by decide) cs fr hq
  · exact ⟨hcs.os.trans hcw.os, hcs.tape.trans hcw.tape, hcs.output.trans hcw.output, Nat.le_trans hcw.size hcs.size, fun q hq hn => by rw [hcs.block q (by have := hcw.size; omega) (by omega), hcw.block q hq hn]⟩

set_option maxRecDepth 100000 in
set_option maxHeartbeats 4000000 in
theorem get11 (D : Nat) (m : List UInt8) (E : Value) (N : Int) (S : Value) (hS : ∃ a n c, S = .slice a n c) (w : World) (h : DSt D w m E) (hE : E = .nilIface ∨ ∃ t u, E = .iface t u) (hl : m.length ≤ 2147483647) (hg : ErrV w) (hne : EG ≠ D) (hX : E = .nilIface → ∀ X r, decU m = some (X, r) → X < 2147483648) :
    Calls Tryz.prog 25 #[.pointer (some ⟨D, 0, none⟩), .agg #[.int .i64 11, .int .u64 N, S]] w fun e w' => ∃ a n c, e = .returned (.agg #[.int .i64 11, .int .u64 0, .slice a n c]) ∧ GRs D w' E (decS m) (.slice a n c) ∧ Chg (fun q => q = D) w w' := by
  obtain ⟨sa, sn, sc, rfl⟩ := hS
  obtain ⟨W, hWe, b0, b1, b2, hsz, hB⟩ := get_cells w 11 N (.slice sa sn sc)
  have HW := Lib.hid hWe.symm
  have hlt := h.lt
  have e0 := b0.cell 0
  have hs1 : W.heap.size ≤ w.heap.size + 3 := by omega
  have hs2 : w.heap.size + 3 ≤ W.heap.size := by omega
  clear hWe hsz
  have hG := ubytes_any D m E (W.alloc (.cells #[] 5)) ((h.low hB).low (below_new W _)) hE hl ((hg.low hB).low (below_new W _)) hne hX
  go_enter Tryz.func25, Tryz.ntmps25
  go_upto_region 2 with fail
  rw [HW.out]
  go_wp2_with fail
  refine hG.mono ?_
  rintro e w1 ⟨xa, xk, xc, rfl, hd, hc0⟩
  have hz1 := hc0.size
  simp at hz1
  have hgE : w1.heap[W.heap.size]? = some (.cells #[] 5 (0, 0)) := blk_chg hc0 (heap_alloc_new W _) (by omega)
  have hsB : ∃ s, Bytes w1 (.slice xa xk xc) s ∧ s.length ≤ 2147483647 ∧ ((∃ r, E = .nilIface ∧ decS m = some (s, r) ∧ DSt D w1 r .nilIface) ∨ ((E ≠ .nilIface ∨ decS m = none) ∧ ∃ m t u, m.length ≤ 2147483647 ∧ DSt D w1 m (.iface t u))) := by
    rcases hd with ⟨s, r, h1, h2, h3, h4⟩ | ⟨h1, h2, h3⟩
    · exact ⟨s, h3.bytes (Nat.le_of_lt h4.lt), by have := decS_len h2; omega, .inl ⟨r, h1, h2, h4⟩⟩
    · exact ⟨[], h2, by simp, .inr ⟨h1, h3⟩⟩
  obtain ⟨s, hsb, hsl, hd2⟩ := hsB
  obtain ⟨a, n, c, w2, hap, ho2, hc2⟩ := copy_into w1 W.heap.size _ s hgE hsb hsl
  have hob := OB.own ho2
  have hz2 := hc2.size
  have hd1 : D < W.heap.size := by omega
  have hres : GRs D w2 E (decS m) (.slice a n c) := by
    rcases hd2 with ⟨r, h1, h2, h3⟩ | ⟨h1, m1, t1, u1, h2, h3⟩
    · exact .inl ⟨s, r, h1, h2, hob, h3.chg hc2 (fun q hq => by omega)⟩
    · exact .inr ⟨h1, m1, t1, u1, h2, h3.chg hc2 (fun q hq => by omega)⟩
  have HAP := Lib.hid hap
  have d1 := ((b1.alloc _).chg hc0 (by omega)).chg hc2 (by omega)
  have d2 := ((b2.alloc _).chg hc0 (by omega)).chg hc2 (by omega)
  have hcw : Chg (fun q => q = D) w w2 := ⟨hc2.os.trans (hc0.os.trans hB.os), hc2.tape.trans (hc0.tape.trans hB.tape), hc2.output.trans (hc0.output.trans hB.output), by omega, fun q hq hn => by rw [hc2.block q (by omega) (by omega), hc0.block q (by simp; omega) hn, Below.heap_alloc _ _ _ (by omega), hB.block q hq]⟩
  clear hap ho2 hob hsb hd hd2 hG hgE hc0 hc2 hz1 hz2
  have i0 := d2.cell 0
  have i1 := d2.cell 1
  have i2 := d2.cell 2
  have z2 := d2.free 2
  have j0 := d1.free 0
  have j1 := d1.free 1
  have j2 := d1.free 2
  have c0 := d1.cell 0
  have c1 := d1.cell 1
  have c2 := d1.cell 2
  have HRES := Lib.hid hres
  clear hres
  go_wp2_with (first | (at_builtin; refine list_run 22 22 rfl (.tmp 77) (.tmp 79) rfl rfl rfl rfl HAP.out ?_) | fail)
  have hF := (((d1.chg (chg_set w2 (w.heap.size + 1 + 1) 2 (.slice a n c)) (by omega)).set 0 (.int .i64 11)).set 1 (.int .u64 0)).set 2 (.slice a n c)
  have r0 := hF.cell 0
  have r1 := hF.cell 1
  have r2 := hF.cell 2
  have hcs : Chg (fun q => q = w.heap.size + 1 ∨ q = w.heap.size + 1 + 1) w2 ((((w2.setCell ⟨w.heap.size + 1 + 1, 2, none⟩ (.slice a n c)).setCell ⟨w.heap.size + 1, 0, none⟩ (.int .i64 11)).setCell ⟨w.heap.size + 1, 1, none⟩ (.int .u64 0)).setCell ⟨w.heap.size + 1, 2, none⟩ (.slice a n c)) := ((((Chg.refl (fun q => q = w.heap.size + 1 ∨ q = w.heap.size + 1 + 1) w2).setCell ⟨w.heap.size + 1 + 1, 2, none⟩ (.inr rfl) _).setCell ⟨w.heap.size + 1, 0, none⟩ (.inl rfl) _).setCell ⟨w.heap.size + 1, 1, none⟩ (.inl rfl) _).setCell ⟨w.heap.size + 1, 2, none⟩ (.inl rfl) _
  refine bodyPost_ret (v := .agg #[.int .i64 11, .int .u64 0, .slice a n c]) (by simp [results, Tryz.results25, go_sem, r0, r1, r2]) rfl ⟨a, n, c, rfl, HRES.out.chg (B := 0) hcs (fun q hq => by omega) (fun q cs fr hq => ?_), ?_⟩
  · rintro (rfl | rfl)
    · exact d1.tyne (by decide) cs fr hq
    · exact d2.tyne (by decide) cs fr hq
  · exact ⟨hcs.os.trans hcw.os, hcs.tape.trans hcw.tape, hcs.output.trans hcw.output, Nat.le_trans hcw.size hcs.size, fun q hq hn => by rw [hcs.block q (by have := hcw.size; omega) (by omega), hcw.block q hq hn]⟩
end Go.Proofs.YtkbkggamfkadnaaGreatDoor
namespace Go.Proofs.YtkbkggamfkadnaaGreatDoor
set_option linter.unusedSimpArgs false
set_option linter.unusedVariables false
open Go.RowKit

/-- a datum of kind k: its number and its bytes, and what is left -/
def decD (k : Nat) (N : Nat) (m : List UInt8) : Option ((Int × List UInt8) × List UInt8) :=
  match k with
  | 0 => (decB 1 m).map fun p => (((p.1 : Nat), []), p.2)
  | 1 => (decB 4 m).map fun p => (((p.1 : Nat), []), p.2)
  | 2 => (decB 8 m).map fun p => (((p.1 : Nat), []), p.2)
  | 3 => (decB 4 m).map fun p => (((p.1 : Nat), []), p.2)
  | 4 => (decB 8 m).map fun p => (((p.1 : Nat), []), p.2)
  | 5 => (decB 8 m).map fun p => (((p.1 : Nat), []), p.2)
  | 6 => (decU m).map fun p => (((p.1 : Nat), []), p.2)
  | 7 => (decU m).map fun p => (((p.1 : Int) % 4294967296, []), p.2)
  | 8 => (decU m).map fun p => (((p.1 : Nat), []), p.2)
  | 9 => (decU m).map fun p => ((IntKind.u64.wrap (zagI p.1), []), p.2)
  | 10 => (decS m).map fun p => ((0, p.1), p.2)
  | 11 => (decS m).map fun p => ((0, p.1), p.2)
  | 12 => if N ≤ m.length then some (((N : Nat), []), m.drop N) else none
  | _ => none
/-- what impl.get has done: a datum, or an error -/
def GAll (D : Nat) (w' : World) (E : Value) (o : Option ((Int × List UInt8) × List UInt8)) (n : Int) (v : Value) : Prop :=
  (∃ s r, E = .nilIface ∧ o = some ((n, s), r) ∧ OB w' v s ∧ DSt D w' r .nilIface) ∨ ((E ≠ .nilIface ∨ o = none) ∧ ∃ m t u, m.length ≤ 2147483647 ∧ DSt D w' m (.iface t u))
theorem OB.nil (w : World) : OB w (.slice none 0 0) [] := ⟨⟨none, 0, rfl, Nat.le_refl _, by decide, .inl rfl⟩, .inl rfl⟩
theorem GAll.num {D : Nat} {w' : World} {E : Value} {o : Option (Nat × List UInt8)} {x : Nat} (f : Nat → Int) (h : DRes D w' E o x) : GAll D w' E (o.map fun p => ((f p.1, []), p.2)) (f x) (.slice none 0 0) := by
  rcases h with ⟨r, h1, h2, h3⟩ | ⟨h1, _, m, t, u, h2, h3⟩
  · exact .inl ⟨[], r, h1, by rw [h2]; rfl, OB.nil _, h3⟩
  · refine .inr ⟨?_, m, t, u, h2, h3⟩
    rcases h1 with h1 | h1
    · exact .inl h1
    · exact .inr (by rw [h1]; rfl)
theorem GAll.str {D : Nat} {w' : World} {E : Value} {o : Option (List UInt8 × List UInt8)} {v : Value} (h : GRs D w' E o v) : GAll D w' E (o.map fun p => ((0, p.1), p.2)) 0 v := by
  rcases h with ⟨s, r, h1, h2, h3, h4⟩ | ⟨h1, m, t, u, h2, h3⟩
  · exact .inl ⟨s, r, h1, by rw [h2]; rfl, h3, h4⟩
  · refine .inr ⟨?_, m, t, u, h2, h3⟩
    rcases h1 with h1 | h1
    · exact .inl h1
    · exact .inr (by rw [h1]; rfl)
theorem skip_any (D : Nat) (m : List UInt8) (E : Value) (n : Nat) (w : World) (h : DSt D w m E) (hE : E = .nilIface ∨ ∃ t u, E = .iface t u) (hl : m.length ≤ 2147483647) (hg : ErrV w) (hn : n ≤ 4294967296) :
    Calls Tryz.prog 72 #[.pointer (some ⟨D, 0, none⟩), .int .i64 n] w fun e w' => e = .returned (.tuple #[]) ∧ GAll D w' E (decD 12 n m) n (.slice none 0 0) ∧ Chg (fun q => q = D) w w' := by
  obtain ⟨t, u, hg⟩ := hg
  by_cases hs : n ≤ m.length
  · refine (skip_ok D m n E w h hs hl).mono ?_
    rintro e w' ⟨he, hd, hc⟩
    refine ⟨he, ?_, hc⟩
    rcases hE with rfl | ⟨t, u, rfl⟩
    · exact .inl ⟨[], _, rfl, by simp only [decD]; rw [if_pos hs], OB.nil _, hd⟩
    · exact .inr ⟨.inl (by simp), _, t, u, by rw [List.length_drop]; omega, hd⟩
  · refine (skip_short D m n E w t u h (by omega) hn hg).mono ?_
    rintro e w' ⟨he, hd, hc⟩
    exact ⟨he, .inr ⟨.inr (by simp only [decD]; rw [if_neg hs]), m, t, u, hl, hd⟩, hc⟩
theorem GAll.chg {D : Nat} {w w' : World} {E : Value} {o : Option ((Int × List UInt8) × List UInt8)} {n : Int} {v : Value} (h : GAll D w E o n v) {S : Nat → Prop} (hc : Chg S w w') (hs : ∀ k, k ≤ D → ¬ S k) (hS : ∀ k cs fr, w.heap[k]? = some (.cells cs 5 fr) → ¬ S k) : GAll D w' E o n v := by
  rcases h with ⟨s, r, h1, h2, h3, h4⟩ | ⟨h1, m, t, u, h3, h4⟩
  · exact .inl ⟨s, r, h1, h2, h3.chg hc hS, h4.chg hc hs⟩
  · exact .inr ⟨h1, m, t, u, h3, h4.chg hc hs⟩

set_option maxRecDepth 100000 in
set_option maxHeartbeats 4000000 in
theorem get12 (D : Nat) (m : List UInt8) (E : Value) (N : Nat) (S : Value) (hS : ∃ a n c, S = .slice a n c) (w : World) (h : DSt D w m E) (hE : E = .nilIface ∨ ∃ t u, E = .iface t u) (hl : m.length ≤ 2147483647) (hg : ErrV w) (hN : N ≤ 4294967296) :
    Calls Tryz.prog 25 #[.pointer (some ⟨D, 0, none⟩), .agg #[.int .i64 12, .int .u64 N, S]] w fun e w' => e = .returned (.agg #[.int .i64 12, .int .u64 N, .slice none 0 0]) ∧ GAll D w' E (decD 12 N m) N (.slice none 0 0) ∧ Chg (fun q => q = D) w w' := by
  obtain ⟨sa, sn, sc, rfl⟩ := hS
  obtain ⟨W, hWe, b0, b1, b2, hsz, hB⟩ := get_cells w 12 N (.slice sa sn sc)
  have HW := Lib.hid hWe.symm
  have hlt := h.lt
  have e0 := b0.cell 0
  have e1 := b0.cell 1
  have g2 := b2.cell 1
  have gz := b2.free 1
  have hs1 : W.heap.size ≤ w.heap.size + 3 := by omega
  have hs2 : w.heap.size + 3 ≤ W.heap.size := by omega
  have hc3 := chg_set W (w.heap.size + 1 + 1) 1 (.int .u64 N)
  have f0 := (b0.chg hc3 (by omega)).cell 1
  have hD3 := (h.low hB).chg hc3 (fun q hq => by omega)
  have hg3 : ErrV (W.setCell ⟨w.heap.size + 1 + 1, 1, none⟩ (.int .u64 N)) := by
    obtain ⟨t, u, hgc⟩ := hg.low hB
    have : EG < w.heap.size := by obtain ⟨t, u, h⟩ := hg; exact cell_lt h
    exact ⟨t, u, cell_chg hc3 hgc (by show EG ≠ _; omega)⟩
  have hG := skip_any D m E N _ hD3 hE hl hg3 hN
  have d1 := b1.chg hc3 (by omega)
  have d2 := b2.set 1 (.int .u64 N)
  have n1 : (0 : Int) ≤ (N : Int) := by omega
  have n2 : (N : Int) ≤ 4294967296 := by omega
  clear hWe hsz
  go_enter Tryz.func25, Tryz.ntmps25
  go_upto_region 2 with fail
  rw [HW.out]
  go_wp2_with fail
  refine hG.mono ?_
  rintro e w1 ⟨rfl, hd, hc⟩
  have d1 := d1.chg hc (by omega)
  have d2 := d2.chg hc (by omega)
  have i0 := d2.cell 0
  have i1 := d2.cell 1
  have i2 := d2.cell 2
  have j0 := d1.free 0
  have j1 := d1.free 1
  have j2 := d1.free 2
  have c0 := d1.cell 0
  have c1 := d1.cell 1
  have c2 := d1.cell 2
  go_wp2_with fail
  have hF := ((d1.set 0 (.int .i64 12)).set 1 (.int .u64 N)).set 2 (.slice none 0 0)
  have r0 := hF.cell 0
  have r1 := hF.cell 1
  have r2 := hF.cell 2
  have hcs : Chg (fun q => q = w.heap.size + 1) w1 (((w1.setCell ⟨w.heap.size + 1, 0, none⟩ (.int .i64 12)).setCell ⟨w.heap.size + 1, 1, none⟩ (.int .u64 N)).setCell ⟨w.heap.size + 1, 2, none⟩ (.slice none 0 0)) := (((Chg.refl (fun q => q = w.heap.size + 1) w1).setCell ⟨w.heap.size + 1, 0, none⟩ rfl _).setCell ⟨w.heap.size + 1, 1, none⟩ rfl _).setCell ⟨w.heap.size + 1, 2, none⟩ rfl _
  refine bodyPost_ret (v := .agg #[.int .i64 12, .int .u64 N, .slice none 0 0]) (by simp [results, Tryz.results25, go_sem, r0, r1, r2]) rfl ⟨rfl, hd.chg hcs (fun q hq => by omega) (fun q cs fr hq => ?_), ?_⟩
  · rintro rfl
    exact d1.tyne (by decide) cs fr hq
  · have z3 := hc3.size
    have z4 := hc.size
    exact ⟨hcs.os.trans (hc.os.trans (hc3.os.trans hB.os)), hcs.tape.trans (hc.tape.trans (hc3.tape.trans hB.tape)), hcs.output.trans (hc.output.trans (hc3.output.trans hB.output)), by have := hcs.size; omega, fun q hq hn => by rw [hcs.block q (by omega) (by omega), hc.block q (by omega) hn, hc3.block q (by omega) (by omega), hB.block q hq]⟩

theorem get_any (k : Nat) (hk : k ≤ 12) (D : Nat) (m : List UInt8) (E : Value) (N : Nat) (S : Value) (hS : ∃ a n c, S = .slice a n c) (w : World) (h : DSt D w m E) (hE : E = .nilIface ∨ ∃ t u, E = .iface t u) (hl : m.length ≤ 2147483647) (hg : ErrV w) (hN : N ≤ 4294967296) (hne : EG ≠ D) (hX : E = .nilIface → k = 10 ∨ k = 11 → ∀ X r, decU m = some (X, r) → X < 2147483648) :
    Calls Tryz.prog 25 #[.pointer (some ⟨D, 0, none⟩), .agg #[.int .i64 k, .int .u64 N, S]] w fun e w' => ∃ n a j c, e = .returned (.agg #[.int .i64 k, .int .u64 n, .slice a j c]) ∧ GAll D w' E (decD k N m) n (.slice a j c) ∧ Chg (fun q => q = D) w w' := by
  match k, hk with
  | 0, _ => exact (get0 D m E N S hS w h hE hl hg).mono fun e w' ⟨x, he, hd, hc⟩ => ⟨_, _, _, _, he, hd.elim (fun h => GAll.num (fun x => (x : Int)) (.inl h)) (fun h => GAll.num (fun x => (x : Int)) (.inr h)), hc⟩
  | 1, _ => exact (get1 D m E N S hS w h hE hl hg).mono fun e w' ⟨x, he, hd, hc⟩ => ⟨_, _, _, _, he, GAll.num (fun x => (x : Int)) hd, hc⟩
  | 2, _ => exact (get2 D m E N S hS w h hE hl hg).mono fun e w' ⟨x, he, hd, hc⟩ => ⟨_, _, _, _, he, GAll.num (fun x => (x : Int)) hd, hc⟩
  | 3, _ => exact (get3 D m E N S hS w h hE hl hg).mono fun e w' ⟨x, he, hd, hc⟩ => ⟨_, _, _, _, he, GAll.num (fun x => (x : Int)) hd, hc⟩
  | 4, _ => exact (get4 D m E N S hS w h hE hl hg).mono fun e w' ⟨x, he, hd, hc⟩ => ⟨_, _, _, _, he, GAll.num (fun x => (x : Int)) hd, hc⟩
  | 5, _ => exact (get5 D m E N S hS w h hE hl hg).mono fun e w' ⟨x, he, hd, hc⟩ => ⟨_, _, _, _, he, GAll.num (fun x => (x : Int)) hd, hc⟩
  | 6, _ => exact (get6 D m E N S hS w h hE hl hg).mono fun e w' ⟨x, he, hd, hc⟩ => ⟨_, _, _, _, he, GAll.num (fun x => (x : Int)) hd, hc⟩
  | 7, _ => exact (get7 D m E N S hS w h hE hl hg).mono fun e w' ⟨x, he, hd, hc⟩ => ⟨_, _, _, _, he, GAll.num (fun x => (x : Int) % 4294967296) hd, hc⟩
  | 8, _ => exact (get8 D m E N S hS w h hE hl hg).mono fun e w' ⟨x, he, hd, hc⟩ => ⟨_, _, _, _, he, GAll.num (fun x => (x : Int)) hd, hc⟩
  | 9, _ => exact (get9 D m E N S hS w h hE hl hg).mono fun e w' ⟨x, he, hd, hc⟩ => ⟨_, _, _, _, he, GAll.num (fun x => IntKind.u64.wrap (zagI x)) hd, hc⟩
  | 10, _ => exact (get10 D m E N S hS w h hE hl hg hne (fun hE => hX hE (.inl rfl))).mono fun e w' ⟨a, n, c, he, hd, hc⟩ => ⟨_, _, _, _, he, GAll.str hd, hc⟩
  | 11, _ => exact (get11 D m E N S hS w h hE hl hg hne (fun hE => hX hE (.inr rfl))).mono fun e w' ⟨a, n, c, he, hd, hc⟩ => ⟨_, _, _, _, he, GAll.str hd, hc⟩
  | 12, _ => exact (get12 D m E N S hS w h hE hl hg hN).mono fun e w' ⟨he, hd, hc⟩ => ⟨_, _, _, _, he, hd, hc⟩
end Go.Proofs.YtkbkggamfkadnaaGreatDoor
namespace Go.Proofs.YtkbkggamfkadnaaGreatDoor
set_option linter.unusedSimpArgs false
set_option linter.unusedVariables false
open Go.RowKit

theorem GAll.low {D : Nat} {w w' : World} {E : Value} {o : Option ((Int × List UInt8) × List UInt8)} {n : Int} {v : Value} (h : GAll D w E o n v) (hD : D < w.heap.size) (hb : Below w.heap.size w w') : GAll D w' E o n v :=
  h.chg (Chg.ofBelow hb) (fun q hq => by omega) (fun q cs fr hq => by have := lt_blk hq; omega)
set_option maxRecDepth 100000 in
set_option maxHeartbeats 2000000 in
theorem dec1_any (q0 q1 q2 k : Nat) (hk : k ≤ 12) (D : Nat) (m : List UInt8) (E : Value) (N : Nat) (S y : Value) (hS : ∃ a n c, S = .slice a n c) (y0 y1 y2 : Value) (w : World) (b0 : Blk w q0 [.pointer (some ⟨D, 0, none⟩)] 55) (b1 : Blk w q1 [.int .i64 k, .int .u64 N, S] DaT) (b2 : Blk w q2 [y0, y1, y2] DaT) (h : DSt D w m E) (hE : E = .nilIface ∨ ∃ t u, E = .iface t u) (hl : m.length ≤ 2147483647) (hg : ErrV w) (hN : N ≤ 4294967296) (hne : EG ≠ D) (h2D : D < q2) (hX : E = .nilIface → k = 10 ∨ k = 11 → ∀ X r, decU m = some (X, r) → X < 2147483648) :
    Calls Tryz.prog 24 #[.pointer (some ⟨q0, 0, none⟩), .pointer (some ⟨q1, 0, none⟩), .pointer (some ⟨q2, 0, none⟩)] w fun e w' => e = .returned (.tuple #[]) ∧ (∃ n a j c, Blk w' q2 [.int .i64 k, .int .u64 n, .slice a j c] DaT ∧ GAll D w' E (decD k N m) n (.slice a j c)) ∧ Chg (fun q => q = D ∨ q = q2) w w' := by
  obtain ⟨sa, sn, sc, rfl⟩ := hS
  have hG := get_any k hk D m E N (.slice sa sn sc) ⟨_, _, _, rfl⟩ w h hE hl hg hN hne hX
  have p0 := b0.cell 0
  have c0 := b1.cell 0
  have c1 := b1.cell 1
  have c2 := b1.cell 2
  go_enter Tryz.func24, Tryz.ntmps24
  go_wp2_with fail
  refine hG.mono ?_
  rintro e w1 ⟨n, a, j, c, rfl, hd, hc⟩
  have d2 := b2.chg hc (by omega)
  have i0 := d2.cell 0
  have i1 := d2.cell 1
  have i2 := d2.cell 2
  have z0 := d2.free 0
  have z1 := d2.free 1
  have z2 := d2.free 2
  go_wp2_with fail
  go_end0
  have hF := ((d2.set 0 (.int .i64 k)).set 1 (.int .u64 n)).set 2 (.slice a j c)
  have hcs : Chg (fun q => q = q2) w1 (((w1.setCell ⟨q2, 0, none⟩ (.int .i64 k)).setCell ⟨q2, 1, none⟩ (.int .u64 n)).setCell ⟨q2, 2, none⟩ (.slice a j c)) := (((Chg.refl (fun q => q = q2) w1).setCell ⟨q2, 0, none⟩ rfl _).setCell ⟨q2, 1, none⟩ rfl _).setCell ⟨q2, 2, none⟩ rfl _
  refine ⟨rfl, ⟨n, a, j, c, hF, hd.chg hcs (fun q hq => by omega) (fun q cs fr hq => ?_)⟩, (hc.mono (fun q hq => .inl hq)).trans (hcs.mono (fun q hq => .inr hq))⟩
  rintro rfl
  exact d2.tyne (by decide) cs fr hq
theorem dLen_any (D : Nat) (m : List UInt8) (E : Value) (w : World) (h : DSt D w m E) : Calls Tryz.prog 26 #[.pointer (some ⟨D, 0, none⟩)] w fun e w' => e = .returned (.int .i64 m.length) ∧ w = w' := by
  obtain ⟨v, hD, hB⟩ := h
  obtain ⟨ao, cap, rfl, h1, h2⟩ := hB.form
  have k0 := hD.cell 0
  go_enter Tryz.func26, Tryz.ntmps26
  go_wp2_with fail
  go_ret
  exact ⟨rfl, rfl⟩
theorem dErr_any (D : Nat) (m : List UInt8) (E : Value) (w : World) (h : DSt D w m E) : Calls Tryz.prog 27 #[.pointer (some ⟨D, 0, none⟩)] w fun e w' => e = .returned E ∧ w = w' := by
  obtain ⟨v, hD, hB⟩ := h
  have k0 := hD.cell 1
  go_enter Tryz.func27, Tryz.ntmps27
  go_wp2_with fail
  go_ret
  exact ⟨rfl, rfl⟩
end Go.Proofs.YtkbkggamfkadnaaGreatDoor
