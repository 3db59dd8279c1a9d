/-
  A stream of bits, at a byte's beginning: bytes are written; a chunk's first sample.
-/
import Derived.Test.YthkdjjejcbndnaaGreatDoorOwn
import Derived.Test.YthkdjjejcbndnaaGreatDoorShelf
import Derived.Deep.AppendSrc
import Derived.Deep.RegionLaw
import Derived.BigQuiet
namespace Go.Proofs.YthkdjjejcbndnaaGreatDoor
set_option linter.unusedSimpArgs false
set_option linter.unusedVariables false
open Go.RowKit

theorem infoU8 : (Tryz.prog.info? 5).map (fun i => (i.zero, i.size, i.bytes)) = some (some (.int .u8 0), 1, 1) := by kernel_rfl
/-- a chunk at block p, whose stream of 128 bytes lies in block g: n of them are written, no bits are left -/
structure XC (w : World) (p g n : Nat) (cs : List Value) : Prop where
  blk : Blk w p [.slice (some ⟨g, 0, none⟩) n 128, .int .u8 0] 115
  row : Blk w g cs 5
  len : cs.length = 128
theorem XC.ne {w : World} {p g n : Nat} {cs : List Value} (h : XC w p g n cs) : g ≠ p := by
  rintro rfl
  have h1 := h.blk
  have h2 := h.row
  unfold Blk at h1 h2
  rw [h1] at h2
  injection h2 with h2
  injection h2 with _ h2
  exact absurd h2 (by decide)
theorem XC.chg {w w' : World} {p g n : Nat} {cs : List Value} (h : XC w p g n cs) {S : Nat → Prop} (hc : Chg S w w') (hp : ¬ S p) (hg : ¬ S g) : XC w' p g n cs := ⟨h.blk.chg hc hp, h.row.chg hc hg, h.len⟩

theorem app_room (g n : Nat) (cs : List Value) (x : Int) (w : World) (hr : Blk w g cs 5) (hl : cs.length = 128) (hn : n < 128) (q : Nat) (hq : Blk w q [.int .u8 x] 5) :
    (Builtin.append_ #[26, 26] 26 #[.slice (some ⟨g, 0, none⟩) n 128, .slice (some ⟨q, 0, none⟩) 1 1]).run Tryz.prog w = .ok (.slice (some ⟨g, 0, none⟩) (n + 1) 128) (w.setCell ⟨g, n, none⟩ (.int .u8 x)) := by
  obtain ⟨i0, hi, hz0, hz1, hz2⟩ := info_parts infoU8
  have := run_append_room_src (P := Tryz.prog) w 26 26 26 5 i0 Tryz.underlying26 hi g 0 n 128 (.slice (some ⟨q, 0, none⟩) 1 1) 1 [.int .u8 x] (Src.ofSlice w Tryz.underlying26 ⟨q, 0, none⟩ 1 1 [.int .u8 x] (by rw [hz1]; rfl) (fun j u hj => by rw [add_cell, Nat.zero_add, hq.cell]; exact hj) (fun u hu => by simp at hu; subst hu; rfl)) (by omega)
    (fun j hj => by
      simp at hj
      subst hj
      rw [hr.cell, hz1, List.getElem?_eq_getElem (by omega)]
      rfl) (fun j hj => hr.free _)
  rw [hz1] at this
  simpa [World.setCells] using this

set_option maxRecDepth 100000 in
set_option maxHeartbeats 2000000 in
theorem writeByte_any (p g n : Nat) (cs : List Value) (x : Int) (w : World) (h : XC w p g n cs) (hn : n < 128) :
    Calls Tryz.prog 125 #[.pointer (some ⟨p, 0, none⟩), .int .u8 x] w fun e w' => e = .returned (.tuple #[]) ∧ XC w' p g (n + 1) (cs.set n (.int .u8 x)) ∧ Chg (fun k => k = p ∨ k = g) w w' := by
  have hne := h.ne
  obtain ⟨hb, hr, hl⟩ := h
  have k0 := hb.cell 0
  have k1 := hb.cell 1
  have hb1 := hb.alloc (.cells #[.int .u8 x] 5)
  have hr1 := hr.alloc (.cells #[.int .u8 x] 5)
  have hrun := app_room g n cs x _ hr1 hl hn w.heap.size (Blk.new w [.int .u8 x] 5)
  have hr2 := hr1.set n (.int .u8 x)
  have hb2 := hb1.chg (chg_set _ g n (.int .u8 x)) (fun c => hne c.symm)
  have e0 := hb2.cell 0
  have z0 := hb2.free 0
  have hb3 := hb2.set 0 (.slice (some ⟨g, 0, none⟩) (n + 1) 128)
  have hr3 := hr2.chg (chg_set _ p 0 (.slice (some ⟨g, 0, none⟩) (n + 1) 128)) hne
  have hc : Chg (fun k => k = p ∨ k = g) w _ := (((Chg.refl _ w).alloc (.cells #[.int .u8 x] 5)).setCell ⟨g, n, none⟩ (.inr rfl) (.int .u8 x)).setCell ⟨p, 0, none⟩ (.inl rfl) (.slice (some ⟨g, 0, none⟩) (n + 1) 128)
  have hl3 : (cs.set n (.int .u8 x)).length = 128 := by simp [hl]
  go_enter Tryz.func125, Tryz.ntmps125
  go_wp2_with (first | (at_builtin; refine list_run 26 26 rfl (.tmp 14) (.tmp 16) rfl rfl rfl rfl hrun ?_) | fail)
  refine bodyPost_ret (results_none rfl _ _ _) rfl ?_
  exact ⟨rfl, ⟨hb3, hr3, hl3⟩, hc⟩

/-- eight bytes behind the n first -/
def set8 (cs : List Value) (n : Nat) : List Value := (((((((cs.set n (.int .u8 63)).set (n + 1) (.int .u8 240)).set (n + 2) (.int .u8 0)).set (n + 3) (.int .u8 0)).set (n + 4) (.int .u8 0)).set (n + 5) (.int .u8 0)).set (n + 6) (.int .u8 0)).set (n + 7) (.int .u8 0)

set_option maxRecDepth 100000 in
set_option maxHeartbeats 2000000 in
theorem writeBits_any (p g n : Nat) (cs : List Value) (w : World) (h : XC w p g n cs) (hn : n < 100) :
    Calls Tryz.prog 126 #[.pointer (some ⟨p, 0, none⟩), .int .u64 4607182418800017408, .int .i64 64] w fun e w' => e = .returned (.tuple #[]) ∧ XC w' p g (n + 8) (set8 cs n) ∧ Chg (fun k => k = p ∨ k = g) w w' := by
  have hC := Chg.refl (fun k => k = p ∨ k = g) w
  go_enter Tryz.func126, Tryz.ntmps126
  go_wp2_with fail
  refine wp_loop_rounds 9 ?_
  iterate 9
    rw [rounds_succ]
    go_wp2_with (first | (go_at_call 125; refine (writeByte_any _ _ _ _ _ _ h (by omega)).mono ?_; rintro e w1 ⟨rfl, h, hc⟩; have hC := hC.trans hc) | fail)
  refine wp_loop_rounds 1 ?_
  rw [rounds_succ]
  go_wp2_with fail
  go_end0
  exact ⟨rfl, h, hC⟩
end Go.Proofs.YthkdjjejcbndnaaGreatDoor
