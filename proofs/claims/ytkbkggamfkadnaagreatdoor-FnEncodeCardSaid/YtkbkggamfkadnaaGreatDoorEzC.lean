/-
  FnEncode: the kinds that the law makes; what it reads back (plain). FnEncode: the walk of the law.
-/
import Derived.Test.YtkbkggamfkadnaaGreatDoorEzB
import Derived.Test.YtkbkggamfkadnaaGreatDoorEz7
import Derived.Test.YtkbkggamfkadnaaGreatDoorDzA
import Derived.Test.YtkbkggamfkadnaaGreatDoorAwake
import Derived.Deep.Cut
import Derived.Deep.CutBlock
namespace Go.Proofs.YtkbkggamfkadnaaGreatDoor
set_option linter.unusedSimpArgs false
set_option linter.unusedVariables false
open Go.RowKit

def lenOf : Value → Nat
  | .slice _ n _ => n
  | _ => 0
/-- the kind that the law asks for -/
def kcell (x : Int × Int × Value) : Int × Int × Value := (x.1, if x.1 = 12 then (lenOf x.2.2 : Int) else 0, .slice none 0 0)
/-- cells of the kinds so far -/
def KsOk (K : List (Int × Int × Value)) (k : Nat) (Ls : List Value) : Prop := Ls.length = k * 3 ∧ ∀ i (hi : i < K.length), i < k → Ls[i * 3]? = some (.int .i64 (kcell K[i]).1) ∧ Ls[i * 3 + 1]? = some (.int .u64 (kcell K[i]).2.1) ∧ Ls[i * 3 + 2]? = some (.slice none 0 0)
theorem KsOk.zero (K : List (Int × Int × Value)) : KsOk K 0 [] := ⟨rfl, fun i hi h => by omega⟩
theorem KsOk.snoc {K : List (Int × Int × Value)} {k : Nat} {Ls : List Value} (h : KsOk K k Ls) (hk : k < K.length) {a b : Int} (ha : (kcell K[k]).1 = a) (hb : (kcell K[k]).2.1 = b) : KsOk K (k + 1) (Ls ++ [.int .i64 a, .int .u64 b, .slice none 0 0]) := by
  obtain ⟨h1, h2⟩ := h
  refine ⟨by simp [h1]; omega, fun i hi hik => ?_⟩
  by_cases hlt : i < k
  · obtain ⟨a1, a2, a3⟩ := h2 i hi hlt
    exact ⟨by rw [List.getElem?_append_left (by omega)]; exact a1, by rw [List.getElem?_append_left (by omega)]; exact a2, by rw [List.getElem?_append_left (by omega)]; exact a3⟩
  · obtain rfl : i = k := by omega
    rw [ha, hb]
    refine ⟨?_, ?_, ?_⟩
    · rw [List.getElem?_append_right (by omega), h1]; simp
    · rw [List.getElem?_append_right (by omega), h1]; simp
    · rw [List.getElem?_append_right (by omega), h1]; simp
theorem KsOk.dats {W : World} {base : Nat} {v : Value} {K : List (Int × Int × Value)} {Ls : List Value} (h : KsOk K K.length Ls) (ho : W.ownsRow base DaT 3 v K.length Ls) : Dats W W.heap.size v (K.map kcell) := by
  obtain ⟨h1, h2⟩ := h
  unfold Dats
  rw [List.length_map]
  refine (Sl.own ho).congr fun j hj => ?_
  have hi : j / 3 < K.length := by omega
  obtain ⟨a1, a2, a3⟩ := h2 (j / 3) hi hi
  have hg : (K.map kcell).getD (j / 3) (0, 0, undef) = kcell K[j / 3] := by simp [List.getD_eq_getElem?_getD, hi]
  rw [hg, List.getD_eq_getElem?_getD]
  have hr : j % 3 = 0 ∨ j % 3 = 1 ∨ j % 3 = 2 := by omega
  rcases hr with hr | hr | hr
  · have e : j = j / 3 * 3 := by omega
    rw [if_pos hr, show Ls[j]? = Ls[j / 3 * 3]? by rw [← e], a1]; rfl
  · have e : j = j / 3 * 3 + 1 := by omega
    rw [if_neg (by omega), if_pos hr, show Ls[j]? = Ls[j / 3 * 3 + 1]? by rw [← e], a2]; rfl
  · have e : j = j / 3 * 3 + 2 := by omega
    rw [if_neg (by omega), if_neg (by omega), show Ls[j]? = Ls[j / 3 * 3 + 2]? by rw [← e], a3]; rfl
/-- the data of a list: their numbers, and their bytes -/
def ItemsOf (W : World) (K : List (Int × Int × Value)) (L : List It) : Prop := L.length = K.length ∧ ∀ i (hi : i < L.length) (hk : i < K.length), K[i].1 = (L[i].1 : Int) ∧ K[i].2.1 = (L[i].2.1 : Int) ∧ Bytes W K[i].2.2 L[i].2.2 ∧ FitD L[i]
theorem ItemsOf.fit {W : World} {K : List (Int × Int × Value)} {L : List It} (h : ItemsOf W K L) : ∀ x ∈ L, FitD x := fun x hx => by
  obtain ⟨i, hi, rfl⟩ := List.mem_iff_getElem.1 hx
  exact (h.2 i hi (by have := h.1; omega)).2.2.2
theorem ItemsOf.len {W : World} {K : List (Int × Int × Value)} {L : List It} (h : ItemsOf W K L) (i : Nat) (hi : i < L.length) (hk : i < K.length) : lenOf K[i].2.2 = L[i].2.2.length := by
  obtain ⟨_, _, h3, _⟩ := h.2 i hi hk
  obtain ⟨a, c, e, _, _⟩ := h3.form
  rw [e]; rfl
theorem ItemsOf.kinds {W : World} {K : List (Int × Int × Value)} {L : List It} (h : ItemsOf W K L) : (K.map kcell).map kn = L.map kindD := by
  apply List.ext_getElem
  · simp [h.1]
  · intro i h1 h2
    simp only [List.length_map] at h1 h2
    obtain ⟨e1, e2, _, f1, _⟩ := h.2 i h2 h1
    have e3 := h.len i h2 h1
    simp only [List.getElem_map]
    unfold kn kcell kindD
    simp only
    rw [e1, e3]
    refine Prod.ext (by simp) ?_
    by_cases hc : L[i].1 = 12
    · rw [if_pos (by omega), if_pos hc]; simp
    · rw [if_neg (by omega), if_neg hc]; simp
theorem ItemsOf.ok {W : World} {K : List (Int × Int × Value)} {L : List It} (h : ItemsOf W K L) : KindsOk (K.map kcell) := fun x hx => by
  obtain ⟨y, hy, rfl⟩ := List.mem_map.1 hx
  obtain ⟨i, hi, rfl⟩ := List.mem_iff_getElem.1 hy
  have hl : i < L.length := by have := h.1; omega
  obtain ⟨e1, e2, _, f1, f2, f3, f4, f5, f6⟩ := h.2 i hl hi
  have e3 := h.len i hl hi
  refine ⟨?_, ?_, ?_, ?_, none, 0, 0, rfl⟩
  · show 0 ≤ K[i].1; omega
  · show K[i].1 ≤ 12; omega
  · show 0 ≤ (if K[i].1 = 12 then (lenOf K[i].2.2 : Int) else 0)
    split <;> omega
  · show (if K[i].1 = 12 then (lenOf K[i].2.2 : Int) else 0) ≤ _
    split <;> omega
theorem ItemsOf.up {W W' : World} {K : List (Int × Int × Value)} {L : List It} (h : ItemsOf W K L) (hb : Below W.heap.size W W') : ItemsOf W' K L := ⟨h.1, fun i hi hk => let ⟨a, b, c, d⟩ := h.2 i hi hk; ⟨a, b, c.up hb, d⟩⟩
theorem ItemsOf.dat {W : World} {v : Value} {K : List (Int × Int × Value)} {L : List It} (h : ItemsOf W K L) (hK : Dats W W.heap.size v K) : DatIt W v L := DatIt.of hK h.1 (fun i hi hk => let ⟨a, b, c, _⟩ := h.2 i hi hk; ⟨a, b, c⟩)
/-- what is read back of a datum -/
theorem got_item {W : World} {K : List (Int × Int × Value)} {L : List It} (h : ItemsOf W K L) (i : Nat) (hi : i < K.length) (hx : i < (outs L []).length) : ((K.map kcell).getD i (0, 0, undef)).1 = K[i].1 ∧ (0 ≤ K[i].1 ∧ K[i].1 ≤ 9 → (outs L [])[i].1.1 = K[i].2.1) ∧ (K[i].1 = 10 ∨ K[i].1 = 11 → Bytes W K[i].2.2 (outs L [])[i].1.2) := by
  have hl : i < L.length := by have := h.1; omega
  obtain ⟨e1, e2, e3, f1, _⟩ := h.2 i hl hi
  have hg : ((K.map kcell).getD i (0, 0, undef)) = kcell K[i] := by simp [List.getD_eq_getElem?_getD, hi]
  have ho : (outs L [])[i].1 = outD L[i] := outs_get L [] i hl
  rw [hg, ho]
  refine ⟨rfl, fun hc => ?_, fun hc => ?_⟩
  · unfold outD
    rw [if_pos (by omega), e2]
  · unfold outD
    rw [if_neg (by omega), if_pos (by omega)]
    exact e3
theorem got_last {W : World} {K : List (Int × Int × Value)} {L : List It} (h : ItemsOf W K L) (m : Nat) (hm : K.length = m + 1) (hx : m < (outs L []).length) : (outs L [])[m].2 = 0 := outs_last L m (by have := h.1; omega) (by have := h.1; omega)
def PreE (W : World) (K : List (Int × Int × Value)) (k : Nat) : Prop := ∀ j (h : j < K.length), j < k → GoodE W K[j]
theorem PreE.next {W : World} {K : List (Int × Int × Value)} {k : Nat} (h : PreE W K k) (hk : k < K.length) (hg : GoodE W K[k]) : PreE W K (k + 1) := fun j hj hjk => by
  by_cases e : j = k
  · subst e; exact hg
  · exact h j hj (by omega)
theorem PreE.items {W : World} {K : List (Int × Int × Value)} (h : PreE W K K.length) (hd : ∀ x ∈ K, DatIn W x) : ∃ L, ItemsOf W K L := by
  obtain ⟨L, h1, h2⟩ := items_of W K (fun x hx => ⟨hd x hx, by obtain ⟨i, hi, rfl⟩ := List.mem_iff_getElem.1 hx; exact h i hi hi⟩)
  exact ⟨L, h1, h2⟩
set_option maxRecDepth 100000 in
theorem errv_of2 {w : World} (h : laidMetH Tryz.prog Rows.fnEncodeRow.laid w) : ErrV w := by
  rw [MakeChecks.laidMetH_plain _ _ _ (by kernel_rfl)] at h
  obtain ⟨a, s, a1, a2, a3, a4⟩ := sentinel_at h (List.mem_of_getElem? (show Rows.fnEncodeRow.laid[0]? = some ("pub-quillon/pub/prometheus/tsdb/encoding.ErrInvalidSize", .iface "*errors.errorString" (.ptr (.agg [.lit (.string [105, 110, 118, 97, 108, 105, 100, 32, 115, 105, 122, 101])]))) from rfl)) (g := EG) (by kernel_rfl) (by kernel_rfl)
  exact ⟨_, _, a1⟩
end Go.Proofs.YtkbkggamfkadnaaGreatDoor
namespace Go.Proofs.YtkbkggamfkadnaaGreatDoor
set_option linter.unusedSimpArgs false
set_option linter.unusedVariables false
open Go.RowKit

set_option maxRecDepth 100000 in
set_option maxHeartbeats 8000000 in
theorem wEncode_main (kv : Value) (K : List (Int × Int × Value)) (w : World) (hK : Dats w w.heap.size kv K) (hKl : K.length ≤ 30) (hd : ∀ x ∈ K, DatIn w x) (hg : ErrV w) :
    Calls Tryz.prog 4 #[kv] w fun e w' => e = .returned (.bool true) ∧ Below w.heap.size w w' := by
  have hKs : ∀ x ∈ K, ∃ a n c, x.2.2 = .slice a n c := fun x hx => let ⟨_, _, s, hs⟩ := hd x hx; let ⟨a, c, e, _⟩ := hs.form; ⟨a, _, c, e⟩
  have hFits := fits16_any kv K w hK hKs
  have HK := Lib.hid hK
  have HD := Lib.hid hd
  have HG := Lib.hid hg
  obtain ⟨ka, kc, rfl, k1, k2⟩ := hK.form
  have n2 : ¬ (30 : Int) < (K.length : Int) := by omega
  obtain ⟨i0, hi0, hz0, hz1, hz2⟩ := info_parts infoDat
  clear hK hd hg hKs
  go_enter Tryz.func4, Tryz.ntmps4
  go_wp2_with fail
  refine hFits.mono ?_
  clear hFits
  rintro e w1 ⟨b0, rfl, hb1, _⟩
  cases b0
  · go_wp2_with fail
    go_ret
    exact ⟨rfl, hb1⟩
  have hsz1 := hb1.size
  go_wp2_with fail
  go_loopw [3, 4] (fun kv' i wr => ∃ (k : Nat) (Ls : List Value), k ≤ K.length ∧ i = .int .i64 k ∧ wr.ownsRow w.heap.size DaT 3 kv' k Ls ∧ Hid (KsOk K k Ls) ∧ Hid (PreE w K k) ∧ Below w.heap.size w wr) (fun _ i _ => K.length - (intOf i).toNat)
  case atStart => exact ⟨0, [], Nat.zero_le _, rfl, World.ownsRow_nil _ _ _ _, Lib.hid (KsOk.zero K), Lib.hid (fun j _ h => absurd h (by omega)), hb1⟩
  case round =>
    obtain ⟨k, Ls, hkl, rfl, ho, hks, hpre, hbel⟩ := hrel
    obtain ⟨za, zc, rfl⟩ := own_form ho
    have hzr := hbel.size
    by_cases hlt : k < K.length
    · obtain ⟨b, off, rfl, hbB, _, hcc⟩ := Dats.at_ HK.out (by omega)
      obtain ⟨f0, f1, f2⟩ := hcc k hlt
      obtain ⟨dr, ⟨d0, d1⟩, s, hs⟩ := HD.out K[k] (List.getElem_mem _)
      obtain ⟨sa, sc, hse, _, _⟩ := hs.form
      have hlen : lenOf K[k].2.2 = s.length := by rw [hse]; rfl
      rw [hse] at f2
      have g0 := (hbel.cell (p := ⟨b, off + k * 3, none⟩) hbB).trans f0
      have g1 := (hbel.cell (p := ⟨b, off + k * 3 + 1, none⟩) hbB).trans f1
      have g2 := (hbel.cell (p := ⟨b, off + k * 3 + 2, none⟩) hbB).trans f2
      have hsl : ∀ s', Bytes w K[k].2.2 s' → s'.length = s.length := fun s' h' => by
        obtain ⟨a', c', e', _, _⟩ := h'.form
        rw [hse] at e'
        injection e' with _ e' _
        exact e'.symm
      have hft := fits_any K[k].1 K[k].2.1 sa s.length sc wr d0
      have i1 : (k : Int) < (K.length : Int) := by omega
      have HGE : ∀ (h1 : (0 ≤ K[k].1 ∧ K[k].1 ≤ 12) ∧ (K[k].1 = 0 → K[k].2.1 < 256) ∧ (K[k].1 = 1 ∨ K[k].1 = 3 ∨ K[k].1 = 7 → K[k].2.1 < 4294967296) ∧ (K[k].1 = 6 → K[k].2.1 < 9223372036854775808)), s.length ≤ 300 → Hid (PreE w K (k + 1)) := fun h1 h2 => Lib.hid (hpre.out.next hlt ⟨h1.1, h1.2.1, h1.2.2.1, h1.2.2.2, fun s' h' => by rw [hsl s' h']; exact h2⟩)
      have HKS : ∀ b, (kcell K[k]).2.1 = b → Hid (KsOk K (k + 1) (Ls ++ [.int .i64 K[k].1, .int .u64 b, .slice none 0 0])) := fun b hb => Lib.hid (hks.out.snoc hlt rfl hb)
      have hkc : (kcell K[k]).2.1 = if K[k].1 = 12 then (s.length : Int) else 0 := by unfold kcell; rw [hlen]
      clear hcc f0 f1 f2 hsl hlen hse hs
      generalize (kcell K[k]).2.1 = kb at *
      generalize K[k].1 = kk at *
      generalize K[k].2.1 = NN at *
      go_wp2_with fail
      refine hft.mono ?_
      clear hft
      rintro e w2 ⟨b1, rfl, hb2, hfit⟩
      have hbel2 := bnx hbel hb2
      have hz2' := hb2.size
      cases b1
      · clear hfit HGE HKS hkc
        go_wp2_with fail
        refine (awake_any _).mono ?_
        rintro e w4 ⟨rfl, hb4⟩
        go_wp2_with fail
        go_ret
        exact ⟨rfl, bnx hbel2 hb4⟩
      have hfit := hfit rfl
      have g0 := (hbel2.cell (p := ⟨b, off + k * 3, none⟩) hbB).trans ((hbel.cell (p := ⟨b, off + k * 3, none⟩) hbB).symm.trans g0)
      have g1 := (hbel2.cell (p := ⟨b, off + k * 3 + 1, none⟩) hbB).trans ((hbel.cell (p := ⟨b, off + k * 3 + 1, none⟩) hbB).symm.trans g1)
      have g2 := (hbel2.cell (p := ⟨b, off + k * 3 + 2, none⟩) hbB).trans ((hbel.cell (p := ⟨b, off + k * 3 + 2, none⟩) hbB).symm.trans g2)
      by_cases hs3 : 300 < s.length
      · have hs3' : (300 : Int) < (s.length : Int) := by omega
        clear hfit HGE HKS hkc
        go_wp2_with fail
        refine (awake_any _).mono ?_
        rintro e w4 ⟨rfl, hb4⟩
        go_wp2_with fail
        go_ret
        exact ⟨rfl, bnx hbel2 hb4⟩
      have hs3' : ¬ (300 : Int) < (s.length : Int) := by omega
      have hs0 : (0 : Int) ≤ (s.length : Int) := by omega
      have HE := HGE hfit (by omega)
      have ho2 := own_below ho hb2 (fun g hq => (ho.lt g hq).2)
      have hlow : ∀ g, (Value.slice za k zc).ownBlock = some g → g < w2.heap.size := fun g hq => by have := (ho.lt g hq).2; omega
      clear hfit HGE ho hbel
      have hkb : k < 2147483648 := by omega
      generalize s.length = sl at *
      have hQ := Blk.new w2 [.int .i64 kk, .int .u64 0, .slice none 0 0] 28
      have hoW := own_alloc ho2 (.cells #[.int .i64 kk, .int .u64 0, .slice none 0 0] 28)
      have hbW : Below w.heap.size w (w2.alloc (.cells #[.int .i64 kk, .int .u64 0, .slice none 0 0] 28)) := hbel2.alloc hbel2.size _
      have g2W := (hbW.cell (p := ⟨b, off + k * 3 + 2, none⟩) hbB).trans ((hbel2.cell (p := ⟨b, off + k * 3 + 2, none⟩) hbB).symm.trans g2)
      have hqz : (w2.alloc (.cells #[.int .i64 kk, .int .u64 0, .slice none 0 0] 28)).heap.size = w2.heap.size + 1 := by simp
      go_upto_region 12 with fail
      generalize w2.alloc (.cells #[.int .i64 kk, .int .u64 0, .slice none 0 0] 28) = W at *
      clear ho2 hbel2 g0 g1 g2 hb2
      have q0 := hQ.cell 0
      have q1 := hQ.cell 1
      have q2 := hQ.cell 2
      have z1 := hQ.free 1
      have HQZ := Lib.hid hqz
      clear hqz
      generalize w2.heap.size = q at *
      by_cases h12 : kk = 12
      · subst h12
        have hkc' : kb = (sl : Int) := by rw [hkc]; rfl
        have HKS := HKS _ hkc'
        clear hkc hkc'
        have R := hQ.set 1 (.int .u64 sl)
        have r0 := R.cell 0
        have r1 := R.cell 1
        have r2 := R.cell 2
        have hoR := own_chg hoW (chg_set W q 1 (.int .u64 sl)) (fun g _ hq h => by have := hlow g hq; omega)
        have hbR : Below w.heap.size w (W.setCell ⟨q, 1, none⟩ (.int .u64 sl)) := hbW.setCell (by show w.heap.size ≤ q; omega) _
        generalize hWR : W.setCell ⟨q, 1, none⟩ (.int .u64 sl) = WR at *
        have hO1 := own_alloc hoR (.cells #[.int .i64 12, .int .u64 sl, .slice none 0 0] 28)
        have hbA : Below w.heap.size w (WR.alloc (.cells #[.int .i64 12, .int .u64 sl, .slice none 0 0] 28)) := hbR.alloc hbR.size _
        have hone3 : ∀ u ∈ [Value.int .i64 12, .int .u64 sl, .slice none 0 0], u.oneCell' = true := by intro u hu; simp at hu; rcases hu with rfl | rfl | rfl <;> rfl
        go_wp2_with (first
          | (at_builtin; refine list_app 23 DaT i0 _ 3 40 rfl (.tmp 58) (.tmp 60) rfl rfl Tryz.underlying23 hi0 hz0 hz1 hz2 rfl (by decide) (by decide) w.heap.size (.slice za k zc) k Ls rfl hO1 WR.heap.size rfl [.int .i64 12, .int .u64 sl, .slice none 0 0] rfl (heap_alloc_new WR _) hone3 hkb (by have := hbA.size; exact this) ?_; intro v1 w6 ho1 hg1; obtain ⟨a1, c1, rfl⟩ := own_form ho1; have hb6 := hbA.grown hg1 hbA.size (fun q hq => (hO1.lt q hq).1))
          | fail)
        go_roundw
        case rel => exact ⟨k + 1, _, by omega, by go_num, ho1, HKS, HE, hb6⟩
        case measure => simp [intOf]; omega
      · have h12' : (kk == 12) = false := by simpa using h12
        have hkc' : kb = 0 := by rw [hkc, if_neg h12]
        have HKS := HKS _ hkc'
        clear hkc hkc' h12
        have hO1 := own_alloc hoW (.cells #[.int .i64 kk, .int .u64 0, .slice none 0 0] 28)
        have hbA : Below w.heap.size w (W.alloc (.cells #[.int .i64 kk, .int .u64 0, .slice none 0 0] 28)) := hbW.alloc hbW.size _
        have hone3 : ∀ u ∈ [Value.int .i64 kk, .int .u64 0, .slice none 0 0], u.oneCell' = true := by intro u hu; simp at hu; rcases hu with rfl | rfl | rfl <;> rfl
        go_wp2_with (first
          | (at_builtin; refine list_app 23 DaT i0 _ 3 40 rfl (.tmp 58) (.tmp 60) rfl rfl Tryz.underlying23 hi0 hz0 hz1 hz2 rfl (by decide) (by decide) w.heap.size (.slice za k zc) k Ls rfl hO1 W.heap.size rfl [.int .i64 kk, .int .u64 0, .slice none 0 0] rfl (heap_alloc_new W _) hone3 hkb (by have := hbA.size; exact this) ?_; intro v1 w6 ho1 hg1; obtain ⟨a1, c1, rfl⟩ := own_form ho1; have hb6 := hbA.grown hg1 hbA.size (fun q hq => (hO1.lt q hq).1))
          | fail)
        go_roundw
        case rel => exact ⟨k + 1, _, by omega, by go_num, ho1, HKS, HE, hb6⟩
        case measure => simp [intOf]; omega
    · obtain rfl : k = K.length := by omega
      obtain ⟨L, hL⟩ := hpre.out.items HD.out
      have HL := Lib.hid hL
      have hI1 := (hL.up hbel).dat (Sl.up HK.out hbel)
      have hEn := encode_any _ L wr hI1 hL.fit (by have := hL.1; omega)
      have hlenL := encs_length L hL.fit
      have hEl : (encs L).length ≤ 9600 := by have := hL.1; omega
      have i1 : ¬ (K.length : Int) < (K.length : Int) := by omega
      rw [show L.length = K.length from hL.1] at *
      clear hL hI1 hlenL
      go_wp2_with fail
      refine hEn.mono ?_
      clear hEn i1
      rintro e w2 ⟨x, rfl, hx, hb2⟩
      have hbel2 := bnx hbel hb2
      have ho2 := own_below ho hb2 (fun g hq => (ho.lt g hq).2)
      clear ho hbel hb2
      obtain ⟨xa, xc, rfl, _, _⟩ := hx.form
      have hzx := hbel2.size
      have hbD : Below w.heap.size w w2.drew := hbel2.drew
      have hbDD : Below w2.heap.size w2 w2.drew := below_drewN (Below.refl _ _) 1
      have hsp := specEncode_any _ L w2.drew ((HL.out.up hbD).dat (Sl.up HK.out hbD)) HL.out.fit (by have := HL.out.1; omega)
      have cvA := conv_str (hx.up hbDD)
      go_upto_region 16 with fail
      go_cut [69] from 64 to 68 (fun sv wx => sv = .bool false ∧ Below w2.heap.size w2 wx)
      case first =>
        clear ho2 hks hpre
        go_region_with (first
          | (go_at_call 12; refine hsp.mono ?_; rintro e w3 ⟨y, rfl, hy, hb3⟩; have cvB := conv_str ((hx.up hbDD).up hb3); have cvC := conv_str hy; obtain ⟨ya, yc, rfl, _, _⟩ := hy.form; have hbf := hbDD.trans (hb3.mono (by exact Nat.le_refl _)))
          | fail)
        all_goals go_wp2_with fail
        all_goals go_meet
        all_goals exact ⟨rfl, hbf⟩
      case rest =>
        obtain ⟨rfl, hbc⟩ := hcut
        have hbc0 := bnx hbel2 hbc
        have hoc := own_below ho2 hbc (fun g hq => (ho2.lt g hq).2)
        have hdec := decode_any _ (encs L) _ (K.map kcell) wc (hx.up hbc) (by omega) (hks.out.dats hoc) (by rw [List.length_map]; omega) HL.out.ok (by rw [HL.out.kinds]; exact encs_fine L HL.out.fit) (HG.out.low hbc0)
        clear hsp cvA hbD hbDD ho2 hoc hks hpre
        go_wp2_with fail
        refine hdec.mono ?_
        clear hdec
        rintro e W3 ⟨gv, fv, wrong, D, P, rfl, hI⟩
        obtain ⟨hGt, hwr⟩ := hI.got (xs := outs L []) (o := some []) (by rw [HL.out.kinds]; exact runD_encs L HL.out.fit)
        obtain rfl : wrong = -1 := hwr
        rw [List.length_map] at hGt
        clear hI
        obtain ⟨ga, gc, rfl, hGo⟩ := hGt.o
        obtain ⟨ea, ec, rfl, hGl⟩ := hGt.l
        have hb3 := bnx hbc0 hGt.bel
        have hol : (outs L []).length = K.length := by rw [outs_length]; exact HL.out.1
        have HOL := Lib.hid hol
        clear hGt hbc hx
        have hz3 := hb3.size
        by_cases h0 : 0 < K.length
        · obtain ⟨m, hm⟩ : ∃ m, K.length = m + 1 := ⟨K.length - 1, by omega⟩
          obtain ⟨b4, off4, rfl, hbB4, hc4⟩ := hGl h0
          have c4 := hc4 m (by rw [hol]; omega)
          rw [got_last HL.out m hm (by rw [hol]; omega)] at c4
          have c4' : W3.cell? ⟨b4, off4 + m, none⟩ = some (.int .i64 0) := c4
          have e1 : (K.length : Int) - 1 = (m : Int) := by omega
          have e2 : (0 : Int) < (K.length : Int) := by omega
          have e3 : (m : Int) < (K.length : Int) := by omega
          have e4 : 1 ≤ (K.length : Int) := by omega
          have HM := Lib.hid hm
          clear hm hol hc4 c4
          go_wp2_with fail
          clear e1 e2 e3 e4 c4' hbB4
          go_loopw [10] (fun i wr => ∃ k : Nat, k ≤ K.length ∧ i = .int .i64 k ∧ Below W3.heap.size W3 wr) (fun i _ => K.length - (intOf i).toNat)
          case atStart => exact ⟨0, Nat.zero_le _, rfl, Below.refl _ _⟩
          case round =>
            obtain ⟨k, hkl, rfl, hbr⟩ := hrel
            have hb3r := bnx hb3 hbr
            by_cases hlt : k < K.length
            · obtain ⟨b, off, rfl, hbB, _, hcc⟩ := Dats.at_ HK.out (by omega)
              obtain ⟨f0, f1, f2⟩ := hcc k hlt
              obtain ⟨_, _, s, hs⟩ := HD.out K[k] (List.getElem_mem _)
              obtain ⟨sa, sc, hse, _, _⟩ := hs.form
              rw [hse] at f2
              have g0 := (hb3r.cell (p := ⟨b, off + k * 3, none⟩) hbB).trans f0
              have g1 := (hb3r.cell (p := ⟨b, off + k * 3 + 1, none⟩) hbB).trans f1
              have g2 := (hb3r.cell (p := ⟨b, off + k * 3 + 2, none⟩) hbB).trans f2
              have hkx : k < (outs L []).length := by rw [HOL.out]; exact hlt
              obtain ⟨t1, t2, t3⟩ := got_item HL.out k hlt hkx
              obtain ⟨b3, off3, rfl, hbB3, hcc3⟩ := hGo (by omega)
              obtain ⟨ta, tc, d0, d1, d2, d3⟩ := (hcc3.below hbr hbB3) k hkx
              rw [t1] at d0
              have hkr : 0 ≤ K[k].1 ∧ K[k].1 ≤ 12 := by
                have hll : k < L.length := by have := HL.out.1; omega
                obtain ⟨u1, _, _, u2, _⟩ := HL.out.2 k hll hlt
                omega
              have i1 : (k : Int) < (K.length : Int) := by omega
              obtain ⟨st, hst⟩ : ∃ st, strOfNums ((outs L [])[k].1.2.map fun b => (b.toNat : Int)) = st := ⟨_, rfl⟩
              have cv1 := fun q => conv_allN wr _ _ d3 st hst q
              have cv2 : K[k].1 = 10 ∨ K[k].1 = 11 → ∀ q, (convert 22 9 (.slice sa s.length sc)).run Tryz.prog (wr.drewN q) = .ok (.string st) (wr.drewN q) := fun h q => by
                have h1 := (t3 h).up hb3r
                rw [hse] at h1
                exact conv_allN wr _ _ h1 st hst q
              clear hcc f0 f1 f2 hcc3 hGo hst d3 hs t1 t3 hse hGl
              generalize (outs L [])[k].1.2.length = ln at *
              generalize (outs L [])[k].1.1 = gN at *
              generalize s.length = sl at *
              generalize K[k].1 = kk at *
              generalize K[k].2.1 = NN at *
              by_cases h10 : kk = 10
              · subst h10
                have cv2 := cv2 (by omega)
                clear t2 hkr
                go_wp2_with fail
                go_quiet (fail)
                go_wp2_with fail
                go_roundw
                case rel => exact ⟨k + 1, by omega, by go_num, below_drewN hbr nq⟩
                case measure => simp [intOf]; omega
              have j10 : (kk == 10) = false := by simpa using h10
              by_cases h11 : kk = 11
              · subst h11
                have cv2 := cv2 (by omega)
                clear t2 hkr h10
                go_wp2_with fail
                go_quiet (fail)
                go_wp2_with fail
                go_roundw
                case rel => exact ⟨k + 1, by omega, by go_num, below_drewN hbr nq⟩
                case measure => simp [intOf]; omega
              have j11 : (kk == 11) = false := by simpa using h11
              clear cv1 cv2
              by_cases h12 : kk = 12
              · subst h12
                clear t2 hkr h10 h11
                go_wp2_with fail
                go_quiet (fail)
                go_wp2_with fail
                go_roundw
                case rel => exact ⟨k + 1, by omega, by go_num, below_drewN hbr nq⟩
                case measure => simp [intOf]; omega
              have j12 : (kk != 12) = true := by simpa using h12
              obtain rfl : gN = NN := t2 (by omega)
              clear t2 hkr h10 h11 h12
              go_wp2_with fail
              go_quiet (fail)
              go_wp2_with fail
              go_roundw
              case rel => exact ⟨k + 1, by omega, by go_num, below_drewN hbr nq⟩
              case measure => simp [intOf]; omega
            · obtain rfl : k = K.length := by omega
              have i1 : ¬ (K.length : Int) < (K.length : Int) := by omega
              go_wp2_with fail
              refine (awake_any _).mono ?_
              rintro e w4 ⟨rfl, hb4⟩
              go_wp2_with fail
              go_ret
              exact ⟨rfl, bnx hb3r hb4⟩
        · have e2 : ¬ (0 : Int) < (K.length : Int) := by omega
          have HN0 := Lib.hid h0
          clear hol h0
          go_wp2_with fail
          clear e2
          go_loopw [10] (fun i wr => ∃ k : Nat, k ≤ K.length ∧ i = .int .i64 k ∧ Below W3.heap.size W3 wr) (fun i _ => K.length - (intOf i).toNat)
          case atStart => exact ⟨0, Nat.zero_le _, rfl, Below.refl _ _⟩
          case round =>
            obtain ⟨k, hkl, rfl, hbr⟩ := hrel
            have hb3r := bnx hb3 hbr
            have hlt : ¬ k < K.length := by have := HN0.out; omega
            obtain rfl : k = K.length := by omega
            have i1 : ¬ (K.length : Int) < (K.length : Int) := by omega
            go_wp2_with fail
            refine (awake_any _).mono ?_
            rintro e w4 ⟨rfl, hb4⟩
            go_wp2_with fail
            go_ret
            exact ⟨rfl, bnx hb3r hb4⟩
set_option maxRecDepth 100000 in
set_option maxHeartbeats 4000000 in
theorem wEncode (kv : Value) (K : List (Int × Int × Value)) (w : World) (hK : Dats w w.heap.size kv K ∧ ∀ x ∈ K, DatIn w x) (hg : ErrV w) :
    Calls Tryz.prog 4 #[kv] w fun e w' => e = .returned (.bool true) ∧ Below w.heap.size w w' := by
  obtain ⟨hK, hd⟩ := hK
  by_cases c2 : K.length ≤ 30
  · exact wEncode_main kv K w hK c2 hd hg
  have hKs : ∀ x ∈ K, ∃ a n c, x.2.2 = .slice a n c := fun x hx => let ⟨_, _, s, hs⟩ := hd x hx; let ⟨a, c, e, _⟩ := hs.form; ⟨a, _, c, e⟩
  have hFits := fits16_any kv K w hK hKs
  obtain ⟨ka, kc, rfl, k1, k2⟩ := hK.form
  have c4' : (30 : Int) < (K.length : Int) := by omega
  clear hK hd hKs
  go_enter Tryz.func4, Tryz.ntmps4
  go_wp2_with fail
  refine hFits.mono ?_
  rintro e w1 ⟨b0, rfl, hb1, _⟩
  cases b0
  · go_wp2_with fail
    go_ret
    exact ⟨rfl, hb1⟩
  · go_wp2_with fail
    refine (awake_any _).mono ?_
    rintro e w4 ⟨rfl, hb4⟩
    go_wp2_with fail
    go_ret
    exact ⟨rfl, bnx hb1 hb4⟩
end Go.Proofs.YtkbkggamfkadnaaGreatDoor
