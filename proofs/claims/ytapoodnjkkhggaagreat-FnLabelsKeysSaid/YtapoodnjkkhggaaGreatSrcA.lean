/-
  append of a string onto a row of bytes.
-/
import Derived.Test.YtapoodnjkkhggaaGreatKept
import Derived.Deep.AppendSrc
namespace Go.Proofs.YtapoodnjkkhggaaGreat
set_option linter.unusedSimpArgs false
set_option linter.unusedVariables false
open Go.RowKit

theorem blk_setCells {g : Nat} {t : TypeId} : ∀ (us : List Value) (j : Nat) (cs : List Value) (w : World), Blk w g cs t → j + us.length ≤ cs.length → Blk (w.setCells g j us) g (cs.take j ++ us ++ cs.drop (j + us.length)) t
  | [], j, cs, w, h, hl => by simpa [World.setCells] using h
  | u :: us, j, cs, w, h, hl => by
    have hl' : j < cs.length := by simp at hl; omega
    have h1 := blk_setCells us (j + 1) (cs.set j u) _ (h.set j u) (by simp at hl ⊢; omega)
    have e : (cs.set j u).take (j + 1) ++ us ++ (cs.set j u).drop (j + 1 + us.length) = cs.take j ++ (u :: us) ++ cs.drop (j + (u :: us).length) := by
      rw [List.drop_set_of_lt (by omega), List.take_set, List.length_cons]
      have : (cs.take (j + 1)).set j u = cs.take j ++ [u] := by
        rw [take_next hl', List.set_append_right _ _ (by simp; omega)]
        simp [Nat.min_eq_left (Nat.le_of_lt hl')]
      rw [this]
      simp [Nat.add_assoc, Nat.add_comm 1]
    rw [e] at h1
    exact h1
theorem chg_setCells (g : Nat) : ∀ (us : List Value) (j : Nat) (w : World), Chg (fun k => k = g) w (w.setCells g j us)
  | [], _, w => Chg.refl _ _
  | u :: us, j, w => (chg_set w g j u).trans (chg_setCells g us (j + 1) _)

theorem grown_new {w : World} {base n m : Nat} {xs news : List Value} {z : Value} (hx : xs.length = n) (hl : news.length = m) (hz : z.cells.size = 1) (old : Nat) (ho : old < n + m) (hm : n + m ≤ 2147483648) (hbase : base ≤ w.heap.size) (row : Option Nat) :
    (w.drew.alloc (.cells ((xs ++ news).toArray ++ Builtin.zeroCells z.cells (grownCap w (n + m) old 5 - (n + m))) 5)).ownsRow base 5 1 (.slice (some ⟨w.heap.size, 0, none⟩) (n + m) (grownCap w (n + m) old 5)) (n + m) (xs ++ news) ∧
      w.grownBy (w.drew.alloc (.cells ((xs ++ news).toArray ++ Builtin.zeroCells z.cells (grownCap w (n + m) old 5 - (n + m))) 5)) row := by
  have hge := grownCap_ge w (n + m) old 5
  have hcm : grownCap w (n + m) old 5 ≤ maxLen := grownCap_le_maxLen w (n + m) old 5 (by unfold maxLen; omega)
  have hlen : (xs ++ news).length = (n + m) * 1 := by rw [List.length_append, hx, hl, Nat.mul_one]
  refine ⟨⟨hlen, .inr ⟨w.heap.size, _, _, rfl, hbase, heap_alloc_new w.drew _, hge, hcm, ?_, ?_⟩⟩, ⟨rfl, rfl, rfl, by simp, fun k hk _ => heap_alloc_old w.drew _ hk⟩⟩
  · simp only [Array.size_append, List.size_toArray, size_zeroCells, hz, hlen, ← Nat.add_mul]
    omega
  · simp only [Array.toList_append]
    rw [← hlen]
    exact List.take_left
theorem own_src_append {w : World} {base n : Nat} {v : Value} {xs : List Value} (hown : w.ownsRow base 5 1 v n xs) (tx : TypeId) (x : Value) (m : Nat) (news : List Value) (hs : Src Tryz.prog 1 tx x m news w) (hn : n + m ≤ 2147483648) (hbase : base ≤ w.heap.size) :
    ∃ v' w', (Builtin.append_ #[39, tx] 39 #[v, x]).run Tryz.prog w = .ok v' w' ∧ w'.ownsRow base 5 1 v' (n + m) (xs ++ news) ∧ w.grownBy w' v.ownBlock := by
  obtain ⟨i0, hi, hz0, hz1, hz2⟩ := info_parts infoU8
  have hl : news.length = m := by have := hs.newsLen; omega
  have hs' : Src Tryz.prog i0.size tx x m news w := by rw [hz1]; exact hs
  have hxl : xs.length = n := by have := hown.1; omega
  have hfit : ∀ cap : Nat, cap < n + m → Builtin.nextslicecap (n + m) cap * i0.bytes ≤ 281474976710656 := fun cap h => growslice_fits (by omega) (by rw [hz2]; omega)
  rcases hown.2 with ⟨rfl, rfl⟩ | ⟨g, cap, cur, rfl, hbg, hg, hnc, hcm, hcs, htake⟩
  · obtain rfl : xs = [] := List.eq_nil_of_length_eq_zero hxl
    by_cases hm : m = 0
    · subst hm
      obtain rfl : news = [] := List.eq_nil_of_length_eq_zero hl
      refine ⟨.slice none 0 0, w, ?_, World.ownsRow_nil w base 5 1, ⟨rfl, rfl, rfl, Nat.le_refl _, fun _ _ _ => rfl⟩⟩
      rcases hs'.kind with ⟨e', hk⟩ | hk <;> simp [Builtin.append_, run_underlying Tryz.underlying39, run_underlying hk, sizeOf, typeInfo, hi, hs'.len, hs'.cells, hs'.cellsD]
    · have hr := run_append_grow_src (P := Tryz.prog) w 39 tx 39 5 i0 _ Tryz.underlying39 hi hz0 none 0 0 [] (run_firstCells_none w.drew i0.size 0 0 0) x m news hs' (by omega) (by omega) (hfit 0 (by omega))
      have hgr := grown_new (w := w) (base := base) (n := 0) (xs := []) (z := .int .u8 0) rfl hl rfl 0 (by omega) hn hbase (Value.ownBlock (.slice none 0 0))
      exact ⟨_, _, hr, hgr.1, hgr.2⟩
  · by_cases hroom : n + m ≤ cap
    · have hB : Blk w g cur.toList 5 := by unfold Blk; simpa using hg
      have hr := run_append_room_src (P := Tryz.prog) w 39 tx 39 5 i0 Tryz.underlying39 hi g 0 n cap x m news hs' hroom (fun j hj => by
        rw [hz1, hB.cell, List.getElem?_eq_getElem (by simp; omega)]; rfl) (fun j hj => hB.free _)
      have e0 : 0 + n * i0.size = n := by rw [hz1]; omega
      rw [e0] at hr
      have hb1 := blk_setCells news n _ _ hB (by simp; omega)
      refine ⟨_, _, hr, ⟨by rw [List.length_append, hxl, hl, Nat.mul_one], .inr ⟨g, cap, _, rfl, hbg, hb1, hroom, hcm, ?_, ?_⟩⟩, ?_⟩
      · simp only [List.size_toArray, List.length_append, List.length_take, List.length_drop, Array.length_toList]
        omega
      · have ht : cur.toList.take n = xs := by rw [← htake, Nat.mul_one]
        rw [ht]
        show List.take ((n + m) * 1) (xs ++ news ++ _) = _
        rw [show (n + m) * 1 = (xs ++ news).length by rw [List.length_append, hxl, hl]; omega]
        exact List.take_left
      · have hc := chg_setCells g news n w
        exact ⟨hc.os, hc.tape, hc.output, hc.size, fun k hk hne => hc.block k hk (fun e => hne (by simp [Value.ownBlock, e]))⟩
    · have holds : ∀ j u, xs[j]? = some u → w.cell? ((⟨g, 0, none⟩ : Addr).add j) = some u := hown.cells (g := g) rfl
      have hr := run_append_grow_src (P := Tryz.prog) w 39 tx 39 5 i0 _ Tryz.underlying39 hi hz0 (some ⟨g, 0, none⟩) n cap xs (run_firstCells_some (P := Tryz.prog) w.drew i0.size n ⟨g, 0, none⟩ n cap xs (by rw [hz1]; exact hown.1) (by simpa using holds)) x m news hs' (by omega) (by omega) (hfit cap (by omega))
      have hgr := grown_new (w := w) (base := base) (n := n) (xs := xs) (z := .int .u8 0) hxl hl rfl cap (by omega) hn hbase (Value.ownBlock (.slice (some ⟨g, 0, none⟩) n cap))
      exact ⟨_, _, hr, hgr.1, hgr.2⟩


theorem byteCells_u8v (s : ByteArray) : byteCells s = s.data.toList.map u8v := rfl
/-- bytes in a row of their own: as a string -/
theorem conv_own {w : World} {base : Nat} {v : Value} {l : List UInt8} (h : w.ownsRow base UT 1 v l.length (l.map u8v)) :
    (convert 39 9 v).run Tryz.prog w = .ok (.string ⟨l.toArray⟩) w := by
  rcases h.2 with ⟨rfl, hn⟩ | ⟨g, cap, cur, rfl, hg, hk, hcap, hmax, hsz, htk⟩
  · obtain rfl : l = [] := List.eq_nil_of_length_eq_zero hn
    rw [run_convert_bytes_string w 39 9 5 _ 0 0 Tryz.underlying39 Tryz.underlying5 Tryz.underlying9]
    simp [Conv.bytesToString, loadCells]
    all_goals rfl
  · refine conv_buf w g _ cap l (cur.toList.drop (l.length * 1)) ?_ rfl
    unfold Blk
    rw [← htk, List.take_append_drop]
    simpa using hk
/-- append of the bytes from i to j of a string -/
theorem app_cut {w : World} {base n : Nat} {v : Value} {xs : List Value} (hown : w.ownsRow base UT 1 v n xs) (s : ByteArray) (hn : n + s.size ≤ 2147483648) (hbase : base ≤ w.heap.size) :
    ∃ v' w', (Builtin.append_ #[39, 9] 39 #[v, .string s]).run Tryz.prog w = .ok v' w' ∧ w'.ownsRow base UT 1 v' (n + s.size) (xs ++ s.data.toList.map u8v) ∧ w.grownBy w' v.ownBlock :=
  own_src_append hown 9 (.string s) s.size (byteCells s) (Src.ofString w Tryz.underlying9 s) hn hbase
set_option maxRecDepth 100000 in
set_option maxHeartbeats 4000000 in
theorem bytes_any (L : List Lb) (w : World) (hd : (encL L).length ≤ 1073741824) :
    Calls Tryz.prog 46 #[lbsV L, .slice none 0 0] w fun e w' => ∃ x, e = .returned x ∧ w'.ownsRow w.heap.size UT 1 x (encL L).length ((encL L).map u8v) ∧ Below w.heap.size w w' := by
  unfold lbsV
  have hsz : (⟨(encL L).toArray⟩ : ByteArray).size = (encL L).length := by simp [ByteArray.size]
  have hdl : (⟨(encL L).toArray⟩ : ByteArray).data.toList = encL L := by simp
  generalize hdd : (⟨(encL L).toArray⟩ : ByteArray) = d at *
  generalize encL L = E at *
  have HS := Lib.hid hsz
  clear hdd hsz
  have hb1 := below_new w (.cells #[.string d] LST)
  have hR := Blk.new w [.string d] LST
  have r0 := hR.cell 0
  simp only [List.getElem?_cons_zero] at r0
  by_cases h0 : d.size = 0
  · have hE : E = [] := List.eq_nil_of_length_eq_zero (by rw [← HS.out]; exact h0)
    subst hE
    have i1 : ¬ (0 : Int) < (d.size : Int) := by omega
    have i2 : (d.size : Int) = 0 := by omega
    have hcp := fun w (p : Option Addr) (c : Nat) => Lib.run_copy_empty_string (P := Tryz.prog) w 39 9 3 UT p 0 c d Tryz.underlying39 (by kernel_rfl) h0
    go_enter Tryz.func46, Tryz.ntmps46
    go_wp2_with fail
    go_ret
    exact ⟨_, rfl, World.ownsRow_nil _ _ _ _, hb1⟩
  · have i1 : (0 : Int) < (d.size : Int) := by omega
    have hd' : d.size ≤ 1073741824 := by rw [HS.out]; exact hd
    have hmk := made_u8 (w.alloc (.cells #[.string d] LST)) d.size d.size (Nat.le_refl _) hd'
    have hBm := blk_made (w.alloc (.cells #[.string d] LST)) d.size
    have hb2 := hb1.alloc (by simp) (.cells (madeCells #[.int .u8 0] d.size) UT)
    have hR2 := hR.alloc (.cells (madeCells #[.int .u8 0] d.size) UT)
    have r2 := hR2.cell 0
    simp only [List.getElem?_cons_zero] at r2
    obtain ⟨W3, hcp, hB3, hc3⟩ := run_copyS ((w.alloc (.cells #[.string d] LST)).alloc (.cells (madeCells #[.int .u8 0] d.size) UT)) 39 9 3 Tryz.underlying39 (some ⟨(w.alloc (.cells #[.string d] LST)).heap.size, 0, none⟩) d.size d.size d (Nat.le_refl _) (w.alloc (.cells #[.string d] LST)).heap.size 0 [] (List.replicate d.size (.int .u8 0)) [] (by rw [List.nil_append, List.append_nil]; exact hBm) rfl (by simp) (fun _ => rfl)
    have hsz1 : (w.alloc (.cells #[.string d] LST)).heap.size = w.heap.size + 1 := by simp
    have hb3 : Below w.heap.size w W3 := hb2.trans (hc3.below w.heap.size hb2.size (fun k hk c => by omega))
    rw [List.nil_append, List.append_nil, hdl] at hB3
    have hO3 : W3.ownsRow w.heap.size UT 1 (.slice (some ⟨(w.alloc (.cells #[.string d] LST)).heap.size, 0, none⟩) d.size d.size) d.size (E.map u8v) :=
      ⟨by rw [List.length_map, HS.out, Nat.mul_one], .inr ⟨_, _, _, rfl, by omega, hB3, Nat.le_refl _, by unfold maxLen; omega, by simp [HS.out], by rw [List.toList_toArray, Nat.mul_one, HS.out]; exact List.take_of_length_le (by simp)⟩⟩
    have HO := Lib.hid hO3
    have HCP := Lib.hid hcp
    rw [hsz1] at HCP HO hmk
    clear hO3 hB3 hBm hcp hc3 hR2 hdl
    go_enter Tryz.func46, Tryz.ntmps46
    have hcp := HCP.out
    go_wp2_with fail
    go_ret
    refine ⟨_, rfl, ?_, hb3⟩
    rw [← HS.out]
    exact HO.out
end Go.Proofs.YtapoodnjkkhggaaGreat
