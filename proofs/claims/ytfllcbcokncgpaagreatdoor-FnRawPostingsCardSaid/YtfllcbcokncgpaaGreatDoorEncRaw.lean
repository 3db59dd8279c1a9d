/-
  EncodePostingsRaw: numbers are encoded as their number and themselves, with four bytes each.
-/
import Derived.Test.YtfllcbcokncgpaaGreatDoorPutBE
import Derived.Test.YtfllcbcokncgpaaGreatDoorPutBig
namespace Go.Proofs.YtfllcbcokncgpaaGreatDoor
set_option linter.unusedSimpArgs false
set_option linter.unusedVariables false
open Go.RowKit

theorem be4_cells (x : Nat) : Lib.byteCells (Lib.beBytes 4 x) = [.int .u8 ((x : Int) / 16777216 % 256), .int .u8 ((x : Int) / 65536 % 256), .int .u8 ((x : Int) / 256 % 256), .int .u8 ((x : Int) % 256)] := by
  have e3 : ((x / 256 / 256 / 256 % 256 : Nat) : Int) = (x : Int) / 16777216 % 256 := by omega
  have e2 : ((x / 256 / 256 % 256 : Nat) : Int) = (x : Int) / 65536 % 256 := by omega
  have e1 : ((x / 256 % 256 : Nat) : Int) = (x : Int) / 256 % 256 := by omega
  have e0 : ((x % 256 : Nat) : Int) = (x : Int) % 256 := by omega
  rw [beBytes4]
  simp only [Lib.byteCells, List.map_cons, List.map_nil, Lib.toUInt8_mod, e0, e1, e2, e3]
theorem putBigB_any (base x : Nat) (v : Value) (bs : List UInt8) (w : World) (h : w.ownsRow base 5 1 v bs.length (Lib.byteCells bs)) (hn : bs.length ≤ 1000000) (hx : x < 18446744073709551616) (hbase : base ≤ w.heap.size) :
    Calls Tryz.prog 22 #[v, .int .u64 x, .int .i64 4] w fun e w' => ∃ v', e = .returned v' ∧ w'.ownsRow base 5 1 v' (bs ++ Lib.beBytes 4 x).length (Lib.byteCells (bs ++ Lib.beBytes 4 x)) ∧ Chg (fun q => base ≤ q) w w' ∧ Keeps 5 w w' := by
  refine (putBig4_any base bs.length x v (Lib.byteCells bs) w h hn hx hbase).mono ?_
  rintro e w' ⟨v', rfl, h1, h2, h3⟩
  refine ⟨v', rfl, ?_, h2, h3⟩
  have e1 : (bs ++ Lib.beBytes 4 x).length = bs.length + 1 + 1 + 1 + 1 := by rw [List.length_append, Lib.beBytes_length]
  have e2 : Lib.byteCells (bs ++ Lib.beBytes 4 x) = Lib.byteCells bs ++ Lib.byteCells (Lib.beBytes 4 x) := by simp [Lib.byteCells]
  rw [e1, e2, be4_cells]
  simpa [List.append_assoc] using h1

theorem putBE32int_any (p base x : Nat) (v : Value) (bs : List UInt8) (w : World) (h : Enc w p base v bs) (hx : x < 4294967296) (hn : bs.length ≤ 1000000000) (hbase : base ≤ w.heap.size) :
    Calls Tryz.prog 61 #[.pointer (some ⟨p, 0, none⟩), .int .i64 x] w fun e w' => e = .returned (.tuple #[]) ∧ ∃ v', Enc w' p base v' (bs ++ Lib.beBytes 4 x) ∧ Chg (fun k => k = p ∨ some k = v.ownBlock) w w' := by
  have hx0 : (0 : Int) ≤ (x : Int) := by omega
  have hx1 : (x : Int) < 4294967296 := by omega
  have hP := putBE32_any p base x v bs w h hx hn hbase
  go_enter Tryz.func61, Tryz.ntmps61
  go_wp2_with (first | (go_at_call 59; refine hP.mono ?_; rintro e w1 ⟨rfl, v1, hE1, hc1⟩) | fail)
  go_end0
  exact ⟨rfl, v1, hE1, hc1⟩

set_option maxRecDepth 100000 in
set_option maxHeartbeats 4000000 in
theorem encodeRaw_any (p base : Nat) (v : Value) (bs : List UInt8) (lv : Value) (l : List Nat) (w : World) (h : Enc w p base v bs) (hI : Ints w p .u32 lv (l.map Int.ofNat)) (hl : ∀ x ∈ l, x < 4294967296) (hn : bs.length + 4 * l.length + 4 ≤ 1000000) (hbase : base ≤ w.heap.size) :
    Calls Tryz.prog 48 #[.pointer (some ⟨p, 0, none⟩), lv] w fun e w' => e = .returned .nilIface ∧ ∃ v', Enc w' p base v' (bs ++ Lib.beBytes 4 l.length ++ raw4 l) ∧ Chg (fun k => p ≤ k) w w' := by
  have hlow := h.low
  have hup : ∀ {w' : World} {v' : Value} {bs' : List UInt8}, Enc w' p base v' bs' → ∀ k, (k = p ∨ some k = v'.ownBlock) → p ≤ k := fun h' k hk => by
    rcases hk with hk | hk
    · omega
    · have := (h'.own.lt k hk.symm).1; omega
  have hP := putBE32int_any p base l.length v bs w h (by omega) (by omega) hbase
  obtain ⟨ao, cap, rfl, h1, h2⟩ := hI.form
  have hlm : (l.map Int.ofNat).length = l.length := List.length_map _
  rw [hlm] at h1 ⊢
  go_enter Tryz.func48, Tryz.ntmps48
  go_wp2_with (first | (go_at_call 61; refine hP.mono ?_; rintro e w1 ⟨rfl, v1, hE1, hc1⟩) | fail)
  go_loopw [13] (fun i wr => ∃ k v', k ≤ l.length ∧ i = .int .i64 (k : Nat) ∧ Enc wr p base v' (bs ++ Lib.beBytes 4 l.length ++ raw4 (l.take k)) ∧ Chg (fun k => p ≤ k) w wr) (fun i _ => l.length - (intOf i).toNat)
  case atStart => exact ⟨0, v1, Nat.zero_le _, rfl, by simpa [raw4] using hE1, hc1.mono (hup h)⟩
  case round => as_aux_lemma =>
    obtain ⟨k, v', hk, rfl, hEr, hcr⟩ := hrel
    by_cases hlt : k < l.length
    · obtain ⟨b, off, rfl, hb, _, hc⟩ := hI.at_ (by omega)
      have c0 := cell_chg hcr (hc k (by omega)) (show ¬ p ≤ b by omega)
      have hx := hl l[k] (List.getElem_mem _)
      have hT : raw4 (l.take (k + 1)) = raw4 (l.take k) ++ Lib.beBytes 4 l[k] := by rw [take_next hlt, raw4_snoc]
      rw [List.getElem_map] at c0
      have c0' : wr.cell? ⟨b, off + k, none⟩ = some (.int .u32 ((l[k] : Nat) : Int)) := c0
      have hsz := hcr.size
      have hlen : (bs ++ Lib.beBytes 4 l.length ++ raw4 (l.take k)).length ≤ 1000000000 := by
        rw [List.length_append, List.length_append, raw4_length, Lib.beBytes_length, List.length_take]; omega
      have hP2 := putBE32_any p base l[k] v' _ wr hEr hx hlen (by omega)
      have HT := Lib.hid hT
      clear hT c0 hc hlen
      generalize l[k] = x at *
      have i0 : (0 : Int) ≤ (k : Int) := by omega
      have i1 : (k : Int) < (l.length : Int) := by omega
      have i2 : (x : Int) ≤ 4294967295 := by omega
      go_wp2_with (first | (go_at_call 59; refine hP2.mono ?_; rintro e w2 ⟨rfl, v2, hE2, hc2⟩) | fail)
      go_roundw
      case rel => exact ⟨k + 1, v2, by omega, by simp, by rw [HT.out, ← List.append_assoc]; exact hE2, hcr.trans (hc2.mono (hup hEr))⟩
      case measure => simp [intOf]; omega
    · obtain rfl : k = l.length := by omega
      rw [List.take_length] at hEr
      go_wp2_with fail
      go_ret
      exact ⟨rfl, v', hEr, hcr⟩

theorem own_form2 {w : World} {base size n : Nat} {e : TypeId} {v : Value} {xs : List Value} (h : w.ownsRow base e size v n xs) : ∃ ao m cap, v = .slice ao m cap ∧ Hid (m = n) := by
  obtain ⟨a, c, rfl⟩ := own_form h
  exact ⟨a, n, c, rfl, Lib.hid rfl⟩
theorem copy_bytes2 (w : World) (v : Value) (l : List UInt8) (h : Bytes w v l) (hl : l.length ≤ 2147483647) :
    ∃ v' w', (Builtin.append_ #[27, 27] 27 #[.slice (some ⟨w.heap.size, 0, none⟩) 0 0, v]).run Tryz.prog (w.alloc (.cells #[] 5)) = .ok v' w' ∧ Bytes w' v' l ∧ Below w.heap.size w w' ∧ ∃ g m c, v' = .slice (some ⟨g, 0, none⟩) m c := by
  obtain ⟨v', w', h1, h2, h3, g, c, h4⟩ := copy_bytes w v l h hl
  exact ⟨v', w', h1, Bytes.own h2, h3, g, _, c, h4⟩
set_option maxRecDepth 100000 in
set_option maxHeartbeats 4000000 in
theorem rawPostings_any (lv : Value) (l : List Nat) (w : World) (hI : Ints w w.heap.size .u32 lv (l.map Int.ofNat)) (hl : ∀ x ∈ l, x < 4294967296) (hn : l.length ≤ 1000) :
    Calls Tryz.prog 23 #[lv] w fun e w' => ∃ x, e = .returned (.tuple #[x, .bool true]) ∧ Bytes w' x (Lib.beBytes 4 l.length ++ raw4 l) ∧ Below w.heap.size w w' := by
  have hE := Enc.new w
  have hbA := below_new w (.cells encZero.toArray 93)
  have hI1 : Ints (w.alloc (.cells encZero.toArray 93)) w.heap.size .u32 lv (l.map Int.ofNat) := Sl.below hI hbA (Nat.le_refl _)
  have hP := encodeRaw_any w.heap.size (w.heap.size + 1) _ [] lv l _ hE hI1 hl (by simp; omega) (by simp)
  simp only [List.nil_append] at hP
  have hlen : (Lib.beBytes 4 l.length ++ raw4 l).length ≤ 2147483647 := by rw [List.length_append, raw4_length, Lib.beBytes_length]; omega
  generalize Lib.beBytes 4 l.length ++ raw4 l = L at *
  obtain ⟨ao, cap, rfl, h1, h2⟩ := hI.form
  clear hI hI1 h1
  generalize (l.map Int.ofNat).length = n at *
  go_enter Tryz.func23, Tryz.ntmps23
  go_wp2_with (first
    | (go_at_call 48; refine hP.mono ?_; rintro e w1 ⟨rfl, v1, hE1, hc1⟩; obtain ⟨va, vm, vc, rfl, hvm⟩ := own_form2 hE1.own; have hE3 := hE1.chg ((Chg.refl (fun _ => False) w1).alloc (.cells #[] 5)) (fun h => h) (fun _ _ _ h => h); obtain ⟨v2, w2, hr, ho, hb2, g2, gm2, gc2, rfl⟩ := copy_bytes2 w1 _ L (Bytes.own hE1.own) hlen; have HR := Lib.hid hr; clear hr)
    | (go_at_call 49; refine (encGet_any _ _ _ _ _ hE3).mono ?_; rintro e w' ⟨rfl, rfl⟩)
    | (at_builtin; refine list_run 27 27 rfl (.tmp 8) (.tmp 9) rfl rfl rfl rfl HR.out ?_)
    | fail)
  go_ret2
  exact ⟨_, rfl, ho, bnx (hbA.trans (hc1.below _ (by simp) (fun k hk => by omega))) hb2⟩
end Go.Proofs.YtfllcbcokncgpaaGreatDoor
