/-
  A list of data in memory; spec.Fits; impl.Encode: the bytes of each datum, one behind the other. impl.Encode: the bytes of each datum, one behind the other.
-/
import Derived.Test.YtkbkggamfkadnaaGreatDoorEzA
import Derived.Test.YtkbkggamfkadnaaGreatDoorDzA
import Derived.Lib.LazyBuf
namespace Go.Proofs.YtkbkggamfkadnaaGreatDoor
set_option linter.unusedSimpArgs false
set_option linter.unusedVariables false
open Go.RowKit

theorem own_form2 {w : World} {base size n : Nat} {e : TypeId} {v : Value} {xs : List Value} (h : w.ownsRow base e size v n xs) : ∃ ao m cap, v = .slice ao m cap ∧ Hid (m = n) := by
  obtain ⟨a, c, rfl⟩ := own_form h
  exact ⟨a, n, c, rfl, Lib.hid rfl⟩
theorem copy_bytes2 (w : World) (v : Value) (l : List UInt8) (h : Bytes w v l) (hl : l.length ≤ 2147483647) :
    ∃ v' w', (Builtin.append_ #[22, 22] 22 #[.slice (some ⟨w.heap.size, 0, none⟩) 0 0, v]).run Tryz.prog (w.alloc (.cells #[] 5)) = .ok v' w' ∧ Bytes w' v' l ∧ Below w.heap.size w w' ∧ ∃ g m c, v' = .slice (some ⟨g, 0, none⟩) m c := by
  obtain ⟨v', w', h1, h2, h3, g, c, h4⟩ := copy_bytes w v l h hl
  exact ⟨v', w', h1, Bytes.own h2, h3, g, _, c, h4⟩
theorem conv_str {w : World} {v : Value} {l : List UInt8} (h : Bytes w v l) : (convert 22 9 v).run Tryz.prog w = .ok (.string ⟨l.toArray⟩) w := conv_all w v l h _ (Lib.Lz.strOfNums_map l)
/-- a list of data in memory -/
structure DatIt (w : World) (v : Value) (L : List It) : Prop where
  form : ∃ ao cap, v = .slice ao L.length cap
  at_ : ∀ ao n cap, v = .slice ao n cap → 0 < L.length → ∃ b off, ao = some ⟨b, off, none⟩ ∧ b < w.heap.size ∧ ∀ i (hi : i < L.length), ∃ sa sc, w.cell? ⟨b, off + i * 3, none⟩ = some (.int .i64 (L[i].1 : Nat)) ∧ w.cell? ⟨b, off + i * 3 + 1, none⟩ = some (.int .u64 (L[i].2.1 : Nat)) ∧ w.cell? ⟨b, off + i * 3 + 2, none⟩ = some (.slice sa L[i].2.2.length sc) ∧ BB w w.heap.size (.slice sa L[i].2.2.length sc) L[i].2.2
theorem BB.ofBytes {w : World} {v : Value} {l : List UInt8} (h : Bytes w v l) : BB w w.heap.size v l := h
/-- a datum that fits -/
def GoodE (W : World) (x : Int × Int × Value) : Prop := (0 ≤ x.1 ∧ x.1 ≤ 12) ∧ (x.1 = 0 → x.2.1 < 256) ∧ (x.1 = 1 ∨ x.1 = 3 ∨ x.1 = 7 → x.2.1 < 4294967296) ∧ (x.1 = 6 → x.2.1 < 9223372036854775808) ∧ ∀ s, Bytes W x.2.2 s → s.length ≤ 300
theorem items_of (W : World) : ∀ K : List (Int × Int × Value), (∀ x ∈ K, DatIn W x ∧ GoodE W x) → ∃ L : List It, L.length = K.length ∧ ∀ i (hi : i < L.length) (hk : i < K.length), K[i].1 = (L[i].1 : Int) ∧ K[i].2.1 = (L[i].2.1 : Int) ∧ Bytes W K[i].2.2 L[i].2.2 ∧ FitD L[i]
  | [], _ => ⟨[], rfl, fun i hi => absurd hi (by simp)⟩
  | x :: K, h => by
    obtain ⟨L, hL, hi⟩ := items_of W K (fun y hy => h y (by simp [hy]))
    obtain ⟨⟨_, ⟨d0, d1⟩, s, hs⟩, ⟨g0, g1⟩, g2, g3, g4, g5⟩ := h x (by simp)
    refine ⟨(x.1.toNat, x.2.1.toNat, s) :: L, by simp [hL], fun i h1 h2 => ?_⟩
    match i with
    | 0 =>
      refine ⟨by show x.1 = ((x.1.toNat : Nat) : Int); omega, by show x.2.1 = ((x.2.1.toNat : Nat) : Int); omega, hs, ?_⟩
      refine ⟨by show x.1.toNat ≤ 12; omega, by show x.2.1.toNat < _; omega, fun e => ?_, fun e => ?_, fun e => ?_, g5 s hs⟩
      · have := g2 (by have : x.1.toNat = 0 := e; omega)
        show x.2.1.toNat < _
        omega
      · have := g3 (by have : x.1.toNat = 1 ∨ x.1.toNat = 3 ∨ x.1.toNat = 7 := e; omega)
        show x.2.1.toNat < _
        omega
      · have := g4 (by have : x.1.toNat = 6 := e; omega)
        show x.2.1.toNat < _
        omega
    | i + 1 => exact hi i (by simpa using h1) (by simpa using h2)
theorem DatIt.of {w : World} {v : Value} {K : List (Int × Int × Value)} {L : List It} (h : Dats w w.heap.size v K) (hL : L.length = K.length) (hi : ∀ i (hi : i < L.length) (hk : i < K.length), K[i].1 = (L[i].1 : Int) ∧ K[i].2.1 = (L[i].2.1 : Int) ∧ Bytes w K[i].2.2 L[i].2.2) : DatIt w v L := by
  obtain ⟨ao, cap, rfl, h1, h2⟩ := h.form
  refine ⟨⟨ao, cap, by rw [hL]⟩, ?_⟩
  intro ao' n cap' e h0
  injection e with e1 e2 e3
  subst e1
  obtain ⟨b, off, rfl, hb, _, hc⟩ := Dats.at_ h (by omega)
  refine ⟨b, off, rfl, hb, fun i hl => ?_⟩
  obtain ⟨c0, c1, c2⟩ := hc i (by omega)
  obtain ⟨e0, e1, e2⟩ := hi i hl (by omega)
  obtain ⟨sa, sc, e3, _, _⟩ := e2.form
  rw [e3] at e2 c2
  exact ⟨sa, sc, by rw [c0, e0], by rw [c1, e1], c2, e2⟩

/-- what spec.Fits answers -/
def FitOut (w : World) (k N : Int) (e : Ending) (w' : World) : Prop := ∃ b, e = .returned (.bool b) ∧ Below w.heap.size w w' ∧ (b = true → (0 ≤ k ∧ k ≤ 12) ∧ (k = 0 → N < 256) ∧ (k = 1 ∨ k = 3 ∨ k = 7 → N < 4294967296) ∧ (k = 6 → N < 9223372036854775808))
theorem FitOut.no {w w' : World} {k N : Int} (h : Below w.heap.size w w') : FitOut w k N (.returned (.bool false)) w' := ⟨_, rfl, h, fun h => by cases h⟩
theorem FitOut.yes {w w' : World} {k N : Int} (h : Below w.heap.size w w') (hk : (0 ≤ k ∧ k ≤ 12) ∧ (k = 0 → N < 256) ∧ (k = 1 ∨ k = 3 ∨ k = 7 → N < 4294967296) ∧ (k = 6 → N < 9223372036854775808)) : FitOut w k N (.returned (.bool true)) w' := ⟨_, rfl, h, fun _ => hk⟩
set_option maxRecDepth 100000 in
set_option maxHeartbeats 4000000 in
theorem fits_any (k N : Int) (a : Option Addr) (n c : Nat) (w : World) (hN : 0 ≤ N) : Calls Tryz.prog 10 #[.agg #[.int .i64 k, .int .u64 N, .slice a n c]] w (FitOut w k N) := by
  by_cases k0 : k = 0
  · subst k0
    by_cases q : N < 256
    · go_enter Tryz.func10, Tryz.ntmps10
      go_wp2_with fail
      go_ret
      exact FitOut.yes (below_new _ _) ⟨by omega, by omega, by omega, by omega⟩
    · go_enter Tryz.func10, Tryz.ntmps10
      go_wp2_with fail
      go_ret
      exact FitOut.no (below_new _ _)
  by_cases k1 : k = 1
  · subst k1
    by_cases q : N < 4294967296
    · go_enter Tryz.func10, Tryz.ntmps10
      go_wp2_with fail
      go_ret
      exact FitOut.yes (below_new _ _) ⟨by omega, by omega, by omega, by omega⟩
    · go_enter Tryz.func10, Tryz.ntmps10
      go_wp2_with fail
      go_ret
      exact FitOut.no (below_new _ _)
  by_cases k3 : k = 3
  · subst k3
    by_cases q : N < 4294967296
    · go_enter Tryz.func10, Tryz.ntmps10
      go_wp2_with fail
      go_ret
      exact FitOut.yes (below_new _ _) ⟨by omega, by omega, by omega, by omega⟩
    · go_enter Tryz.func10, Tryz.ntmps10
      go_wp2_with fail
      go_ret
      exact FitOut.no (below_new _ _)
  by_cases k7 : k = 7
  · subst k7
    by_cases q : N < 4294967296
    · go_enter Tryz.func10, Tryz.ntmps10
      go_wp2_with fail
      go_ret
      exact FitOut.yes (below_new _ _) ⟨by omega, by omega, by omega, by omega⟩
    · go_enter Tryz.func10, Tryz.ntmps10
      go_wp2_with fail
      go_ret
      exact FitOut.no (below_new _ _)
  by_cases k6 : k = 6
  · subst k6
    by_cases q : N < 9223372036854775808
    · go_enter Tryz.func10, Tryz.ntmps10
      go_wp2_with fail
      go_ret
      exact FitOut.yes (below_new _ _) ⟨by omega, by omega, by omega, by omega⟩
    · go_enter Tryz.func10, Tryz.ntmps10
      go_wp2_with fail
      go_ret
      exact FitOut.no (below_new _ _)
  have j0 : (k == 0) = false := by simpa using k0
  have j1 : (k == 1) = false := by simpa using k1
  have j3 : (k == 3) = false := by simpa using k3
  have j7 : (k == 7) = false := by simpa using k7
  have j6 : (k == 6) = false := by simpa using k6
  have HK := Lib.hid (And.intro k0 (And.intro k1 (And.intro k3 (And.intro k7 k6))))
  clear k0 k1 k3 k7 k6
  by_cases h0 : 0 ≤ k
  · by_cases h1 : k ≤ 12
    · go_enter Tryz.func10, Tryz.ntmps10
      go_wp2_with fail
      go_ret
      obtain ⟨k0, k1, k3, k7, k6⟩ := HK.out
      exact FitOut.yes (below_new _ _) ⟨by omega, by omega, by omega, by omega⟩
    · go_enter Tryz.func10, Tryz.ntmps10
      go_wp2_with fail
      go_ret
      exact FitOut.no (below_new _ _)
  · go_enter Tryz.func10, Tryz.ntmps10
    go_wp2_with fail
    go_ret
    exact FitOut.no (below_new _ _)
theorem float_any (n : Nat) (w : World) : Calls Tryz.prog 34 #[.int .u64 n] w fun e w' => e = .returned (.float .f64 n) ∧ w = w' := by
  have hx := f64from
  go_enter Tryz.func34, Tryz.ntmps34
  go_wp2_with fail
  go_ret
  exact ⟨by simp, rfl⟩
theorem encs_snoc {L : List It} {k : Nat} (h : k < L.length) : encs (L.take (k + 1)) = encs (L.take k) ++ encD L[k] := by
  rw [take_next h, encs_append]
  simp [encs]
theorem byte_put (n : Nat) (hn : n < 256) : EncPut 28 (.int .u8 n) (Lib.beBytes 1 n) := by
  intro p base v bs w h hl hb
  have e : Lib.beBytes 1 n = [n.toUInt8] := by simp [Lib.beBytes, Lib.leBytes, Nat.mod_eq_of_lt hn]
  have e2 := small_u8 hn
  have := putByte_any p base n.toUInt8 v bs w h hl hb
  rw [e2] at this
  rw [e]
  exact this

end Go.Proofs.YtkbkggamfkadnaaGreatDoor
namespace Go.Proofs.YtkbkggamfkadnaaGreatDoor
set_option linter.unusedSimpArgs false
set_option linter.unusedVariables false
open Go.RowKit

set_option maxRecDepth 100000 in
set_option maxHeartbeats 16000000 in
theorem encode_any (v : Value) (L : List It) (w : World) (hI : DatIt w v L) (hF : ∀ x ∈ L, FitD x) (hl : L.length ≤ 30) :
    Calls Tryz.prog 11 #[v] w fun e w' => ∃ x, e = .returned x ∧ Bytes w' x (encs L) ∧ Below w.heap.size w w' := by
  have hEL := encs_length L hF
  have hE := Enc.new w
  have hbA := below_new w (.cells encZero.toArray 66)
  have hC0 : Chg (fun q => w.heap.size ≤ q) w (w.alloc (.cells encZero.toArray 66)) := (Chg.refl _ w).alloc _
  obtain ⟨ao, cap, rfl⟩ := hI.form
  have hat := hI.at_ _ _ _ rfl
  clear hI
  go_enter Tryz.func11, Tryz.ntmps11
  go_wp2_with fail
  generalize hb0 : w.heap.size = b0 at *
  generalize w.alloc _ = W0 at *
  have HB0 := Lib.hid hb0
  clear hb0
  have hW0 : b0 + 1 ≤ W0.heap.size := by have := hE.blk; obtain ⟨C, h, _⟩ := this; have := h.lt; omega
  go_loopw [8] (fun i wr => ∃ (k : Nat) (v' : Value), k ≤ L.length ∧ i = .int .i64 k ∧ Enc wr b0 (b0 + 1) v' (encs (L.take k)) ∧ Chg (fun q => b0 ≤ q) w wr ∧ b0 + 1 ≤ wr.heap.size) (fun i _ => L.length - (intOf i).toNat)
  case atStart => exact ⟨0, _, Nat.zero_le _, rfl, hE, hC0, hW0⟩
  case round =>
    obtain ⟨k, v', hk, rfl, hEr, hcr, hzr⟩ := hrel
    by_cases hlt : k < L.length
    · obtain ⟨b, off, rfl, hb, hcc⟩ := hat (by omega)
      obtain ⟨sa, sc, f0, f1, f2, f3⟩ := hcc k hlt
      have hT := Lib.hid (encs_snoc hlt)
      have hbl : (encs (L.take k)).length ≤ 900000000 := by
        have := encs_length (L.take k) (fun x hx => hF x (List.mem_of_mem_take hx))
        rw [List.length_take] at this
        omega
      have hfit := hF L[k] (List.getElem_mem _)
      have hbel : Below b0 w wr := hcr.below b0 (by rw [HB0.out]; exact Nat.le_refl _) (fun q hq h => by omega)
      have g0 := (hbel.cell (p := ⟨b, off + k * 3, none⟩) hb).trans f0
      have g1 := (hbel.cell (p := ⟨b, off + k * 3 + 1, none⟩) hb).trans f1
      have g2 := (hbel.cell (p := ⟨b, off + k * 3 + 2, none⟩) hb).trans f2
      have g3 : BB wr b0 (.slice sa L[k].2.2.length sc) L[k].2.2 := Sl.below f3 hbel (Nat.le_refl _)
      have i1 : (k : Int) < (L.length : Int) := by omega
      clear hcc f0 f1 f2 f3 hbel
      generalize L[k] = x at *
      obtain ⟨kk, N, S⟩ := x
      obtain ⟨h1, h2, h3, h4, h5, h6⟩ := hfit
      simp only at h1 h2 h3 h4 h5 h6 g0 g1 g2 g3
      have hkk : kk = 0 ∨ kk = 1 ∨ kk = 2 ∨ kk = 3 ∨ kk = 4 ∨ kk = 5 ∨ kk = 6 ∨ kk = 7 ∨ kk = 8 ∨ kk = 9 ∨ kk = 10 ∨ kk = 11 ∨ kk = 12 := by omega
      have n0 : (0 : Int) ≤ (N : Int) := by omega
      have n1 : (N : Int) ≤ 18446744073709551615 := by omega
      have hEW : Enc (wr.alloc (.cells #[.int .i64 kk, .int .u64 N, .slice sa S.length sc] DaT)) b0 (b0 + 1) v' (encs (L.take k)) := hEr.chg ((Chg.refl (fun _ => False) wr).alloc _) (fun h => h) (fun _ _ _ h => h)
      have hcW : Chg (fun q => b0 ≤ q) w (wr.alloc (.cells #[.int .i64 kk, .int .u64 N, .slice sa S.length sc] DaT)) := hcr.alloc _
      have hzW : b0 + 1 ≤ (wr.alloc (.cells #[.int .i64 kk, .int .u64 N, .slice sa S.length sc] DaT)).heap.size := by simp; omega
      have hBW : BB (wr.alloc (.cells #[.int .i64 kk, .int .u64 N, .slice sa S.length sc] DaT)) b0 (.slice sa S.length sc) S := Sl.below g3 (below_new wr _) (by omega)
      clear hEr hcr g3
      rcases hkk with rfl | rfl | rfl | rfl | rfl | rfl | rfl | rfl | rfl | rfl | rfl | rfl | rfl
      · have HD := Lib.hid (show encD (0, N, S) = Lib.beBytes 1 N by simp [encD])
        have hP := (byte_put N (h3 rfl)) _ _ _ _ _ hEW (by omega) hzW
        have q3 : (0 = 0) → (N : Int) ≤ 255 := fun h => by have := h3 h.symm; omega
        have q4 : (0 = 1 ∨ 0 = 3 ∨ 0 = 7) → (N : Int) ≤ 4294967295 := fun h => by have := h4 h; omega
        have q5 : (0 = 6) → (N : Int) ≤ 9223372036854775807 := fun h => by have := h5 h; omega
        have q := q3 rfl
        clear q3 q4 q5 h1 h2 h3 h4 h5 n1
        go_wp2_with fail
        refine hP.mono ?_
        clear hP
        rintro e w1 ⟨rfl, v1, hE1, hc1⟩
        go_wp2_with fail
        go_roundw
        case rel => exact ⟨k + 1, v1, by omega, by go_num, by rw [hT.out, HD.out]; exact hE1, hcW.trans hc1, Nat.le_trans hzW hc1.size⟩
        case measure => simp [intOf]; omega
      · have HD := Lib.hid (show encD (1, N, S) = Lib.beBytes 4 N by simp [encD])
        have hP := (be32_put N (h4 (by omega))) _ _ _ _ _ hEW (by omega) hzW
        have q3 : (0 = 1) → (N : Int) ≤ 255 := fun h => by have := h3 h.symm; omega
        have q4 : (1 = 1 ∨ 1 = 3 ∨ 1 = 7) → (N : Int) ≤ 4294967295 := fun h => by have := h4 h; omega
        have q5 : (1 = 6) → (N : Int) ≤ 9223372036854775807 := fun h => by have := h5 h; omega
        have q := q4 (by omega)
        clear q3 q4 q5 h1 h2 h3 h4 h5 n1
        go_wp2_with fail
        refine hP.mono ?_
        clear hP
        rintro e w1 ⟨rfl, v1, hE1, hc1⟩
        go_wp2_with fail
        go_roundw
        case rel => exact ⟨k + 1, v1, by omega, by go_num, by rw [hT.out, HD.out]; exact hE1, hcW.trans hc1, Nat.le_trans hzW hc1.size⟩
        case measure => simp [intOf]; omega
      · have HD := Lib.hid (show encD (2, N, S) = Lib.beBytes 8 N by simp [encD])
        have hP := (be64_put N h2) _ _ _ _ _ hEW (by omega) hzW
        have q3 : (0 = 2) → (N : Int) ≤ 255 := fun h => by have := h3 h.symm; omega
        have q4 : (2 = 1 ∨ 2 = 3 ∨ 2 = 7) → (N : Int) ≤ 4294967295 := fun h => by have := h4 h; omega
        have q5 : (2 = 6) → (N : Int) ≤ 9223372036854775807 := fun h => by have := h5 h; omega
        clear q3 q4 q5 h1 h2 h3 h4 h5 n1
        go_wp2_with fail
        refine hP.mono ?_
        clear hP
        rintro e w1 ⟨rfl, v1, hE1, hc1⟩
        go_wp2_with fail
        go_roundw
        case rel => exact ⟨k + 1, v1, by omega, by go_num, by rw [hT.out, HD.out]; exact hE1, hcW.trans hc1, Nat.le_trans hzW hc1.size⟩
        case measure => simp [intOf]; omega
      · have HD := Lib.hid (show encD (3, N, S) = Lib.beBytes 4 N by simp [encD])
        have hP := (be32int_put N (h4 (by omega))) _ _ _ _ _ hEW (by omega) hzW
        have q3 : (0 = 3) → (N : Int) ≤ 255 := fun h => by have := h3 h.symm; omega
        have q4 : (3 = 1 ∨ 3 = 3 ∨ 3 = 7) → (N : Int) ≤ 4294967295 := fun h => by have := h4 h; omega
        have q5 : (3 = 6) → (N : Int) ≤ 9223372036854775807 := fun h => by have := h5 h; omega
        have q := q4 (by omega)
        clear q3 q4 q5 h1 h2 h3 h4 h5 n1
        go_wp2_with fail
        refine hP.mono ?_
        clear hP
        rintro e w1 ⟨rfl, v1, hE1, hc1⟩
        go_wp2_with fail
        go_roundw
        case rel => exact ⟨k + 1, v1, by omega, by go_num, by rw [hT.out, HD.out]; exact hE1, hcW.trans hc1, Nat.le_trans hzW hc1.size⟩
        case measure => simp [intOf]; omega
      · have HD := Lib.hid (show encD (4, N, S) = Lib.beBytes 8 N by simp [encD])
        have hP := (be64int_put N h2) _ _ _ _ _ hEW (by omega) hzW
        have q3 : (0 = 4) → (N : Int) ≤ 255 := fun h => by have := h3 h.symm; omega
        have q4 : (4 = 1 ∨ 4 = 3 ∨ 4 = 7) → (N : Int) ≤ 4294967295 := fun h => by have := h4 h; omega
        have q5 : (4 = 6) → (N : Int) ≤ 9223372036854775807 := fun h => by have := h5 h; omega
        rw [IntWalk.i64_left] at hP
        clear q3 q4 q5 h1 h2 h3 h4 h5 n1
        go_wp2_with fail
        refine hP.mono ?_
        clear hP
        rintro e w1 ⟨rfl, v1, hE1, hc1⟩
        go_wp2_with fail
        go_roundw
        case rel => exact ⟨k + 1, v1, by omega, by go_num, by rw [hT.out, HD.out]; exact hE1, hcW.trans hc1, Nat.le_trans hzW hc1.size⟩
        case measure => simp [intOf]; omega
      · have HD := Lib.hid (show encD (5, N, S) = Lib.beBytes 8 N by simp [encD])
        have hP := (bef64_put N h2) _ _ _ _ _ hEW (by omega) hzW
        have q3 : (0 = 5) → (N : Int) ≤ 255 := fun h => by have := h3 h.symm; omega
        have q4 : (5 = 1 ∨ 5 = 3 ∨ 5 = 7) → (N : Int) ≤ 4294967295 := fun h => by have := h4 h; omega
        have q5 : (5 = 6) → (N : Int) ≤ 9223372036854775807 := fun h => by have := h5 h; omega
        clear q3 q4 q5 h1 h2 h3 h4 h5 n1
        have hFl := fun w => float_any N w
        go_wp2_with fail
        refine (hFl _).mono ?_
        rintro e wf ⟨rfl, rfl⟩
        go_wp2_with fail
        refine hP.mono ?_
        clear hP
        rintro e w1 ⟨rfl, v1, hE1, hc1⟩
        go_wp2_with fail
        go_roundw
        case rel => exact ⟨k + 1, v1, by omega, by go_num, by rw [hT.out, HD.out]; exact hE1, hcW.trans hc1, Nat.le_trans hzW hc1.size⟩
        case measure => simp [intOf]; omega
      · have HD := Lib.hid (show encD (6, N, S) = Lib.uvarint N by simp [encD])
        have hP := (uvint_put N (h5 rfl)) _ _ _ _ _ hEW (by omega) hzW
        have q3 : (0 = 6) → (N : Int) ≤ 255 := fun h => by have := h3 h.symm; omega
        have q4 : (6 = 1 ∨ 6 = 3 ∨ 6 = 7) → (N : Int) ≤ 4294967295 := fun h => by have := h4 h; omega
        have q5 : (6 = 6) → (N : Int) ≤ 9223372036854775807 := fun h => by have := h5 h; omega
        have q := q5 rfl
        clear q3 q4 q5 h1 h2 h3 h4 h5 n1
        go_wp2_with fail
        refine hP.mono ?_
        clear hP
        rintro e w1 ⟨rfl, v1, hE1, hc1⟩
        go_wp2_with fail
        go_roundw
        case rel => exact ⟨k + 1, v1, by omega, by go_num, by rw [hT.out, HD.out]; exact hE1, hcW.trans hc1, Nat.le_trans hzW hc1.size⟩
        case measure => simp [intOf]; omega
      · have HD := Lib.hid (show encD (7, N, S) = Lib.uvarint N by simp [encD])
        have hP := (uv32_put N (h4 (by omega))) _ _ _ _ _ hEW (by omega) hzW
        have q3 : (0 = 7) → (N : Int) ≤ 255 := fun h => by have := h3 h.symm; omega
        have q4 : (7 = 1 ∨ 7 = 3 ∨ 7 = 7) → (N : Int) ≤ 4294967295 := fun h => by have := h4 h; omega
        have q5 : (7 = 6) → (N : Int) ≤ 9223372036854775807 := fun h => by have := h5 h; omega
        have q := q4 (by omega)
        clear q3 q4 q5 h1 h2 h3 h4 h5 n1
        go_wp2_with fail
        refine hP.mono ?_
        clear hP
        rintro e w1 ⟨rfl, v1, hE1, hc1⟩
        go_wp2_with fail
        go_roundw
        case rel => exact ⟨k + 1, v1, by omega, by go_num, by rw [hT.out, HD.out]; exact hE1, hcW.trans hc1, Nat.le_trans hzW hc1.size⟩
        case measure => simp [intOf]; omega
      · have HD := Lib.hid (show encD (8, N, S) = Lib.uvarint N by simp [encD])
        have hP := (uvarint64_put N h2) _ _ _ _ _ hEW (by omega) hzW
        have q3 : (0 = 8) → (N : Int) ≤ 255 := fun h => by have := h3 h.symm; omega
        have q4 : (8 = 1 ∨ 8 = 3 ∨ 8 = 7) → (N : Int) ≤ 4294967295 := fun h => by have := h4 h; omega
        have q5 : (8 = 6) → (N : Int) ≤ 9223372036854775807 := fun h => by have := h5 h; omega
        clear q3 q4 q5 h1 h2 h3 h4 h5 n1
        go_wp2_with fail
        refine hP.mono ?_
        clear hP
        rintro e w1 ⟨rfl, v1, hE1, hc1⟩
        go_wp2_with fail
        go_roundw
        case rel => exact ⟨k + 1, v1, by omega, by go_num, by rw [hT.out, HD.out]; exact hE1, hcW.trans hc1, Nat.le_trans hzW hc1.size⟩
        case measure => simp [intOf]; omega
      · have HD := Lib.hid (show encD (9, N, S) = Lib.uvarint (Lib.zigzag (IntKind.i64.wrap (N : Int))) by simp [encD])
        have hP := (varint64_put _ (wrap_i64 N).1 (wrap_i64 N).2) _ _ _ _ _ hEW (by omega) hzW
        have q3 : (0 = 9) → (N : Int) ≤ 255 := fun h => by have := h3 h.symm; omega
        have q4 : (9 = 1 ∨ 9 = 3 ∨ 9 = 7) → (N : Int) ≤ 4294967295 := fun h => by have := h4 h; omega
        have q5 : (9 = 6) → (N : Int) ≤ 9223372036854775807 := fun h => by have := h5 h; omega
        rw [IntWalk.i64_left] at HD
        rw [IntWalk.i64_left] at hP
        clear q3 q4 q5 h1 h2 h3 h4 h5 n1
        go_wp2_with fail
        refine hP.mono ?_
        clear hP
        rintro e w1 ⟨rfl, v1, hE1, hc1⟩
        go_wp2_with fail
        go_roundw
        case rel => exact ⟨k + 1, v1, by omega, by go_num, by rw [hT.out, HD.out]; exact hE1, hcW.trans hc1, Nat.le_trans hzW hc1.size⟩
        case measure => simp [intOf]; omega
      · have HD := Lib.hid (show encD (10, N, S) = Lib.uvarint S.length ++ S by simp [encD])
        have hP := uvstr_put ⟨S.toArray⟩ (by show S.toArray.size ≤ _; simp; omega) _ _ _ _ _ hEW hbl hzW
        have e1 : (⟨S.toArray⟩ : ByteArray).size = S.length := by show S.toArray.size = _; simp
        have e2 : (⟨S.toArray⟩ : ByteArray).data.toList = S := by simp
        rw [e1, e2] at hP
        have cv : (convert 22 9 (.slice sa S.length sc)).run Tryz.prog (wr.alloc (.cells #[.int .i64 10, .int .u64 N, .slice sa S.length sc] 28)) = .ok (.string ⟨S.toArray⟩) (wr.alloc (.cells #[.int .i64 10, .int .u64 N, .slice sa S.length sc] 28)) := conv_str (Sl.mono hBW (by omega) (Nat.le_refl _) : Bytes _ _ S)
        clear e1 e2 h1 h2 h3 h4 h5 n1
        go_wp2_with fail
        refine hP.mono ?_
        clear hP
        rintro e w1 ⟨rfl, v1, hE1, hc1⟩
        go_wp2_with fail
        go_roundw
        case rel => exact ⟨k + 1, v1, by omega, by go_num, by rw [hT.out, HD.out]; exact hE1, hcW.trans hc1, Nat.le_trans hzW hc1.size⟩
        case measure => simp [intOf]; omega
      · have HD := Lib.hid (show encD (11, N, S) = Lib.uvarint S.length ++ S by simp [encD])
        have hP := uvbytes_put _ S (by omega) _ _ _ _ _ hEW hBW hbl hzW
        clear h1 h2 h3 h4 h5 n1
        go_wp2_with fail
        refine hP.mono ?_
        clear hP
        rintro e w1 ⟨rfl, v1, hE1, hc1⟩
        go_wp2_with fail
        go_roundw
        case rel => exact ⟨k + 1, v1, by omega, by go_num, by rw [hT.out, HD.out]; exact hE1, hcW.trans hc1, Nat.le_trans hzW hc1.size⟩
        case measure => simp [intOf]; omega
      · have HD := Lib.hid (show encD (12, N, S) = S by simp [encD])
        have hP := putString_any _ _ ⟨S.toArray⟩ _ _ _ hEW (by omega) (by show S.toArray.size ≤ _; simp; omega) hzW
        have e2 : (⟨S.toArray⟩ : ByteArray).data.toList = S := by simp
        rw [e2] at hP
        have cv : (convert 22 9 (.slice sa S.length sc)).run Tryz.prog (wr.alloc (.cells #[.int .i64 12, .int .u64 N, .slice sa S.length sc] 28)) = .ok (.string ⟨S.toArray⟩) (wr.alloc (.cells #[.int .i64 12, .int .u64 N, .slice sa S.length sc] 28)) := conv_str (Sl.mono hBW (by omega) (Nat.le_refl _) : Bytes _ _ S)
        clear e2 h1 h2 h3 h4 h5 n1
        go_wp2_with fail
        refine hP.mono ?_
        clear hP
        rintro e w1 ⟨rfl, v1, hE1, hc1⟩
        go_wp2_with fail
        go_roundw
        case rel => exact ⟨k + 1, v1, by omega, by go_num, by rw [hT.out, HD.out]; exact hE1, hcW.trans hc1, Nat.le_trans hzW hc1.size⟩
        case measure => simp [intOf]; omega
    · obtain rfl : k = L.length := by omega
      rw [List.take_length] at hEr
      have i1 : ¬ (L.length : Int) < (L.length : Int) := by omega
      obtain ⟨va, vm, vc, rfl, hvm⟩ := own_form2 hEr.own
      have hE3 := hEr.chg ((Chg.refl (fun _ => False) wr).alloc (.cells #[] 5)) (fun h => h) (fun _ _ _ h => h)
      obtain ⟨v2, w2, hr, ho, hb2, g2, gm2, gc2, rfl⟩ := copy_bytes2 wr _ (encs L) (Bytes.own hEr.own) (by omega)
      have HR := Lib.hid hr
      have hbel : Below b0 w wr := hcr.below b0 (by rw [HB0.out]; exact Nat.le_refl _) (fun q hq h => by omega)
      clear hr
      go_wp2_with (first
        | (go_at_call 42; refine (encGet_any _ _ _ _ _ hE3).mono ?_; rintro e w' ⟨rfl, rfl⟩)
        | (at_builtin; refine list_run 22 22 rfl (.tmp 90) (.tmp 91) rfl rfl rfl rfl HR.out ?_)
        | fail)
      go_ret
      have e0 := HB0.out
      subst e0
      exact ⟨_, rfl, ho, bnx hbel hb2⟩
end Go.Proofs.YtkbkggamfkadnaaGreatDoor
