/-
  FnRawPostings: the walk of the law.
-/
import Derived.Test.YtfllcbcokncgpaaGreatDoorEncRaw
import Derived.Test.YtfllcbcokncgpaaGreatDoorReadRaw
import Derived.Test.YtfllcbcokncgpaaGreatDoorWPadding
import Derived.Test.YtfllcbcokncgpaaGreatDoorRefs2
namespace Go.Proofs.YtfllcbcokncgpaaGreatDoor
set_option linter.unusedSimpArgs false
set_option linter.unusedVariables false
open Go.RowKit

theorem keeps_own {e : TypeId} {w w' : World} (h : Keeps e w w') {base size n : Nat} {e2 : TypeId} {v : Value} {xs : List Value} (ho : w.ownsRow base e2 size v n xs) (ht : e2 ≠ e) : w'.ownsRow base e2 size v n xs := h _ _ _ _ _ _ ht ho

/-- a row of bytes of the call's own -/
def OwnB (w : World) (base : Nat) (v : Value) (bs : List UInt8) : Prop := w.ownsRow base 5 1 v bs.length (Lib.byteCells bs)
theorem OwnB.form {w : World} {base : Nat} {v : Value} {bs : List UInt8} (h : OwnB w base v bs) : ∃ ao m cap, v = .slice ao m cap ∧ Hid (m = bs.length) := own_form2 h

set_option maxRecDepth 100000 in
set_option maxHeartbeats 8000000 in
theorem wRawPost (lv : Value) (l : List Nat) (w : World) (hI : Ints w w.heap.size .u32 lv (l.map Int.ofNat)) (hl : ∀ x ∈ l, x < 4294967296) :
    Calls Tryz.prog 7 #[lv] w fun e w' => e = .returned (.bool true) ∧ Below w.heap.size w w' := by
  obtain ⟨i0, hi, hz0, hz1, hz2⟩ := info_parts infoU64
  have hlm : (l.map Int.ofNat).length = l.length := List.length_map _
  have hI0 := hI
  obtain ⟨ao, cap, rfl, h1, h2⟩ := hI.form
  rw [hlm] at h1 hI hI0 ⊢
  have HLM := Lib.hid hlm
  by_cases c1 : 2147483647 < l.length
  · have c1' : (2147483647 : Int) < (l.length : Int) := by omega
    go_enter Tryz.func7, Tryz.ntmps7
    go_wp2_with fail
    go_ret
    exact ⟨rfl, Below.refl _ _⟩
  by_cases c2 : 300 < l.length
  · have c2' : (300 : Int) < (l.length : Int) := by omega
    go_enter Tryz.func7, Tryz.ntmps7
    go_wp2_with (first | (go_at_call 12; refine (awake_any _).mono ?_; rintro e w1 ⟨rfl, hb1⟩) | fail)
    go_ret
    exact ⟨rfl, hb1⟩
  have c2' : ¬ (300 : Int) < (l.length : Int) := by omega
  have c3 : (0 : Int) ≤ (l.length : Int) := by omega
  have hP := putBigB_any w.heap.size l.length (.slice none 0 0) [] w (World.ownsRow_nil _ _ _ _) (by simp) (by omega) (Nat.le_refl _)
  rw [List.nil_append] at hP
  have HBL : Hid ((Lib.beBytes 4 l.length).length = 4) := Lib.hid (Lib.beBytes_length _ _)
  clear hlm hI
  go_enter Tryz.func7, Tryz.ntmps7
  go_wp2_with (first
    | (go_at_call 22; refine hP.mono ?_; rintro e w1 ⟨v1, rfl, ho1, hc1, -⟩; obtain ⟨xa, xm, xc, rfl, hxm⟩ := own_form2 ho1; have hb1 := hc1.below w.heap.size (Nat.le_refl _) (fun k hk => by omega))
    | fail)
  go_loopw [3, 4, 5] (fun vw va i wr => ∃ k : Nat, k ≤ l.length ∧ i = .int .i64 k ∧ OwnB wr w.heap.size vw (Lib.beBytes 4 l.length ++ raw4 (l.take k)) ∧ wr.ownsRow w.heap.size 28 1 va k (((l.take k).map Int.ofNat).map (Value.int .u64)) ∧ Below w.heap.size w wr) (fun _ _ i _ => l.length - (intOf i).toNat)
  case atStart => exact ⟨0, Nat.zero_le _, rfl, (show OwnB w1 w.heap.size (.slice xa xm xc) (Lib.beBytes 4 l.length ++ []) by rw [List.append_nil]; exact ho1), World.ownsRow_nil _ _ _ _, hb1⟩
  case round => as_aux_lemma =>
    obtain ⟨k, hk, rfl, hw, ha, hbel⟩ := hrel
    obtain ⟨wa, wm, wc, rfl, hwm⟩ := hw.form
    obtain ⟨aa, ac, rfl⟩ := own_form ha
    by_cases hlt : k < l.length
    · obtain ⟨b, off, rfl, hb, _, hc⟩ := hI0.at_ (by rw [HLM.out]; omega)
      have c0 := (hbel.cell (p := ⟨b, off + k, none⟩) hb).trans (hc k (by rw [HLM.out]; exact hlt))
      have hx := hl l[k] (List.getElem_mem _)
      have hT : raw4 (l.take (k + 1)) = raw4 (l.take k) ++ Lib.beBytes 4 l[k] := by rw [take_next hlt, raw4_snoc]
      have hU : ((l.take (k + 1)).map Int.ofNat).map (Value.int .u64) = ((l.take k).map Int.ofNat).map (Value.int .u64) ++ [.int .u64 ((l[k] : Nat) : Int)] := by rw [take_next hlt, List.map_append, List.map_append]; rfl
      rw [List.getElem_map] at c0
      have c0' : wr.cell? ⟨b, off + k, none⟩ = some (.int .u32 ((l[k] : Nat) : Int)) := c0
      have hsz := hbel.size
      have hlen : (Lib.beBytes 4 l.length ++ raw4 (l.take k)).length ≤ 1000000 := by
        rw [List.length_append, raw4_length, HBL.out, List.length_take]; omega
      have hP2 := putBigB_any w.heap.size l[k] _ _ wr hw hlen (by omega) hsz
      have HT := Lib.hid hT
      have HU := Lib.hid hU
      clear hT hU c0 hc hlen
      generalize l[k] = x at *
      have i0' : (0 : Int) ≤ (k : Int) := by omega
      have i1 : (k : Int) < (l.length : Int) := by omega
      have i2 : (x : Int) ≤ 4294967295 := by omega
      have i3 : (0 : Int) ≤ (x : Int) := by omega
      go_wp2_with (first
        | (go_at_call 22; refine hP2.mono ?_; rintro e w2 ⟨v2, rfl, ho2, hc2, hk2⟩; obtain ⟨ya, ym, yc, rfl, hym⟩ := own_form2 ho2; have hb2 : Below w.heap.size w w2 := hbel.trans (hc2.below w.heap.size hsz (fun k hk => by omega)); have hzz := hb2.size; have c02 := (hb2.cell (p := ⟨b, off + k, none⟩) hb).trans ((hbel.cell (p := ⟨b, off + k, none⟩) hb).symm.trans c0'); have ha2 := keeps_own hk2 ha (by decide); have hO2 := own_alloc ha2 (.cells #[.int .u64 x] 28))
        | (at_builtin; refine list_app 30 28 i0 _ 1 8 rfl (.tmp 35) (.tmp 41) rfl rfl Tryz.underlying30 hi hz0 hz1 hz2 rfl (by decide) (by decide) w.heap.size (.slice aa k ac) k (((l.take k).map Int.ofNat).map (Value.int .u64)) rfl hO2 w2.heap.size rfl [.int .u64 x] rfl (heap_alloc_new w2 _) (one1 _ _) (by omega) (by simp; omega) ?_; intro v3 w3 ho3 hg3)
        | fail)
      obtain ⟨za, zc, rfl⟩ := own_form ho3
      have hb3 : Below w.heap.size w w3 := (hb2.alloc hzz (.cells #[.int .u64 x] 28)).grown hg3 (by simp; omega) (fun q hq => (hO2.lt q hq).1)
      have ho23 := own_keep hO2 hg3 (own_alloc ho2 (.cells #[.int .u64 x] 28)) (by decide)
      rw [← HU.out] at ho3
      go_roundw
      case rel => exact ⟨k + 1, by omega, by simp, by unfold OwnB; rw [HT.out, ← List.append_assoc]; exact ho23, ho3, hb3⟩
      case measure => simp [intOf]; omega
    · obtain rfl : k = l.length := by omega
      rw [List.take_length] at hw ha
      have hlb : (Lib.beBytes 4 l.length ++ raw4 l).length ≤ 2147483647 := by rw [List.length_append, raw4_length, HBL.out]; omega
      have hpos : 0 < (Lib.beBytes 4 l.length ++ raw4 l).length := by rw [List.length_append, HBL.out]; omega
      have hrp := rawPostings_any _ l wr (Sl.mono (Sl.below hI0 hbel (Nat.le_refl _)) hbel.size (Nat.le_refl _)) hl (by omega)
      obtain ⟨b0, b1, b2, b3, hbe⟩ : ∃ b0 b1 b2 b3, Lib.beBytes 4 l.length = [b0, b1, b2, b3] := ⟨_, _, _, _, beBytes4 _⟩
      have hbn : Lib.beNat [b0, b1, b2, b3] = l.length := by rw [← hbe]; exact beNat_beBytes4 _ (by omega)
      obtain ⟨s, hs⟩ : ∃ s, strOfNums ((Lib.beBytes 4 l.length ++ raw4 l).map fun b => (b.toNat : Int)) = s := ⟨_, rfl⟩
      have hrl := nums4_raw l hl
      have hwB := Bytes.own (l := Lib.beBytes 4 l.length ++ raw4 l) hw
      have hll : (raw4 l).length = 4 * Lib.beNat [b0, b1, b2, b3] := by rw [hbn, raw4_length]
      have hRR := fun W (hB : Bytes W (.slice wa wm wc) (b0 :: b1 :: b2 :: b3 :: raw4 l)) => readRaw_ok _ b0 b1 b2 b3 (raw4 l) W hB hll (by rw [hbe] at hlb; exact hlb)
      rw [hbn, hrl] at hRR
      have hbe2 : Lib.beBytes 4 l.length ++ raw4 l = b0 :: b1 :: b2 :: b3 :: raw4 l := by rw [hbe]; rfl
      rw [hbe2] at hs hwB hpos hrp
      generalize b0 :: b1 :: b2 :: b3 :: raw4 l = L at *
      have HS := Lib.hid hs
      clear hs hbe hbe2 hbn hrl hll hlb hw
      have hal : (l.map Int.ofNat).length ≤ 2147483646 := by rw [HLM.out]; omega
      have haI : ∀ W, Below wr.heap.size wr W → Ints W W.heap.size .u64 (.slice aa l.length ac) (l.map Int.ofNat) := fun W hW => (Ints.own (l := l.map Int.ofNat) (show wr.ownsRow w.heap.size 28 1 (.slice aa l.length ac) (l.map Int.ofNat).length _ by rw [HLM.out]; exact ha)).up hW
      go_wp2_with (first
        | (go_at_call 23; refine hrp.mono ?_; rintro e w2 ⟨v2, rfl, hB2, hb2⟩; obtain ⟨ya, yc, rfl, _, _⟩ := hB2.form)
        | (go_at_call 17; refine (hRR _ (hwB.up hb2)).mono ?_; rintro e w3 ⟨v3, rfl, ho3, hb3⟩; obtain ⟨za, zc, rfl⟩ := own_form ho3; have hb23 := bnx hb2 hb3)
        | (go_at_call 12; refine (awake_any _).mono ?_; rintro e w4 ⟨rfl, hb4⟩; have hb24 := bnx hb23 hb4; have cv1 := conv_bytes _ _ _ ((hB2.up hb3).up hb4) hpos s HS.out; have cv2 := conv_bytes _ _ _ (hwB.up hb24) hpos s HS.out)
        | (go_at_call 24; refine (sameRefs_eq _ _ (l.map Int.ofNat) _ ((Ints.own (l := l.map Int.ofNat) (show w3.ownsRow _ 28 1 (.slice za l.length zc) (l.map Int.ofNat).length _ by rw [HLM.out]; exact ho3)).up hb4) (haI _ hb24) hal).mono ?_; rintro e w5 ⟨rfl, hb5⟩)
        | fail)
      go_ret
      exact ⟨rfl, bnx hbel (bnx hb24 hb5)⟩
end Go.Proofs.YtfllcbcokncgpaaGreatDoor
