/-
  impl.PoolBack.
-/
import Derived.Test.YthkdjjejcbndnaaGreatDoorXi
import Derived.Deep.RegionLaw
import Derived.Deep.Cut
namespace Go.Proofs.YthkdjjejcbndnaaGreatDoor
set_option linter.unusedSimpArgs false
set_option linter.unusedVariables false
open Go.RowKit
attribute [local go_sem] run_store_float run_store_iface

/-- a chunk was got of a pool -/
def Got (T : TypeId) (l : List UInt8) (a : Option Addr) (n c : Nat) (w : World) (s7 s8 : Value) (wx : World) : Prop := ∃ p, s7 = .iface T (.pointer (some ⟨p, 0, none⟩)) ∧ s8 = .nilIface ∧ wx.cell? ⟨p, 0, none⟩ = some (.slice a n c) ∧ Bytes wx (.slice a n c) l ∧ Below w.heap.size w wx
theorem Got.intro {T : TypeId} {l : List UInt8} {a : Option Addr} {n c : Nat} {w wx : World} (p : Nat) (h1 : wx.cell? ⟨p, 0, none⟩ = some (.slice a n c)) (h2 : Bytes wx (.slice a n c) l) (h3 : Below w.heap.size w wx) : Got T l a n c w (.iface T (.pointer (some ⟨p, 0, none⟩))) .nilIface wx := ⟨p, rfl, rfl, h1, h2, h3⟩
theorem get_method (t : World) : (method 350 139 (.agg #[]) "Get").run Tryz.prog t = .ok (135, .agg #[]) t := by kernel_rfl
theorem get_nil (t : World) : (nilAhead 350 139 (.agg #[]) "Get").run Tryz.prog t = .ok (some false) t := by kernel_rfl
set_option maxRecDepth 100000 in
theorem newPool_any (w : World) : Calls Tryz.prog 44 #[] w fun e w' => e = .returned (.iface 139 (.agg #[])) ∧ w = w' := by
  go_enter Tryz.func44, Tryz.ntmps44
  go_wp2_with fail
  go_ret
  exact ⟨rfl, rfl⟩
set_option maxRecDepth 100000 in
theorem poolGet0 (k : Nat) (a : Option Addr) (n c : Nat) (w : World) (h : k = 0 ∨ 3 < k) : Calls Tryz.prog 135 #[.agg #[], .int .u8 k, .slice a n c] w fun e w' => ∃ t u, e = .returned (.tuple #[.nilIface, .iface t u]) ∧ Below w.heap.size w w' := by
  have e1 : ((k : Int) == 1) = false := by rw [beq_eq_false_iff_ne]; omega
  have e2 : ((k : Int) == 2) = false := by rw [beq_eq_false_iff_ne]; omega
  have e3 : ((k : Int) == 3) = false := by rw [beq_eq_false_iff_ne]; omega
  have hb0 := below_new w (.cells #[] 139)
  clear h
  go_enter Tryz.func135, Tryz.ntmps135
  go_wp2_with (first
    | (go_at_call 51; refine (errNew_any _ _).mono ?_; rintro e w1 ⟨rfl, hB⟩)
    | fail)
  go_ret2
  exact ⟨_, _, rfl, bnx hb0 hB⟩

set_option maxRecDepth 100000 in
theorem poolGet1 (a : Option Addr) (n c : Nat) (w : World) : Calls Tryz.prog 135 #[.agg #[], .int .u8 1, .slice a n c] w fun e w' => ∃ p, e = .returned (.tuple #[.iface 57 (.pointer (some ⟨p, 0, none⟩)), .nilIface]) ∧ w'.cell? ⟨p, 0, none⟩ = some (.slice a n c) ∧ Below w.heap.size w w' := by
  have hmr := mResX
  have hb0 := below_new w (.cells #[] 139)
  have hz0 : (w.alloc (.cells #[] 139)).heap.size = w.heap.size + 1 := by simp
  have hn := Blk.new (w.alloc (.cells #[] 139)) [.slice none 0 0, .int .u8 0] 115
  rw [hz0] at hn
  have hnb := below_new (w.alloc (.cells #[] 139)) (.cells #[.slice none 0 0, .int .u8 0] 115)
  rw [hz0] at hnb
  go_enter Tryz.func135, Tryz.ntmps135
  go_wp2_with (first
    | (go_at_call 42; refine (resX_any _ a n c _ _ _ hn).mono ?_; rintro e w1 ⟨rfl, h1, hc1⟩)
    | fail)
  go_ret2
  exact ⟨_, rfl, h1.cell 0, (hb0.trans (hnb.mono (by omega))).trans (hc1.below _ (by simp; omega) (fun k hk => by omega))⟩
set_option maxRecDepth 100000 in
set_option maxHeartbeats 2000000 in
theorem poolBack1 (v : Value) (l : List UInt8) (w : World) (hv : Bytes w v l) (hl : l.length ≤ 2147483647) : Calls Tryz.prog 19 #[v, .int .i64 1] w fun e w' => ∃ x, e = .returned (.tuple #[.int .i64 1, x, .bool true]) ∧ Bytes w' x l ∧ Below w.heap.size w w' := by
  have hmg := get_method
  have hng := get_nil
  have hmf := hmk
  have hme := mEncX
  have hmb := mBytX
  obtain ⟨a, c, rfl, h1, h2⟩ := hv.form
  obtain ⟨v2, w2, hr, ho, hb2, g2, c2, rfl⟩ := copy_bytes w.drew _ _ hv hl
  have hg := poolGet1 (some ⟨g2, 0, none⟩) l.length c2 w2
  have HR := Lib.hid hr
  have HO := Lib.hid ho
  have HV := Lib.hid hv
  clear hr ho hv
  generalize hn : l.length = n at *
  have hbd : Below w.heap.size w w.drew := (Below.refl _ w).drew
  go_enter Tryz.func19, Tryz.ntmps19
  go_wp2_with fail
  have HBy : ∀ W, Below w2.heap.size w2 W → Bytes W (.slice (some ⟨g2, 0, none⟩) n c2) l := fun W hW => by
    have hO := HO.out
    subst hn
    exact (Bytes.own hO).up hW
  go_cut [7, 8] from 15 (fun s7 s8 wx => Got 57 l (some ⟨g2, 0, none⟩) n c2 w s7 s8 wx)
  case first =>
    have hw : IntKind.u8.wrap 1 = 1 := by decide
    go_region_held3 (fun _ => True) (trivial) (first
      | (refine step_run 26 26 rfl (.tmp 19) (.tmp 20) rfl rfl rfl rfl HR.out ?_)
      | (go_at_call 44; refine (newPool_any _).mono ?_; rintro e w' ⟨rfl, rfl⟩)
      | (go_at_call 135; refine hg.mono ?_; rintro e w3 ⟨p, rfl, hp, hb3⟩)
      | fail)
    all_goals
      clear hw
      go_wp2_with fail
      go_meet
      exact Got.intro p hp (HBy _ hb3) (bnx (hbd.trans hb2) hb3)
  case rest =>
    obtain ⟨p, rfl, rfl, hp, hby, hbw⟩ := hcut
    obtain ⟨v4, w4, hr4, ho4, hb4, g4, c4, rfl⟩ := copy_bytes wc _ _ (hn ▸ hby) (by omega)
    have HR4 := Lib.hid hr4
    have HO4 := Lib.hid (Bytes.own ho4)
    have k3 : (wc.alloc (.cells #[] 5)).cell? ⟨p, 0, none⟩ = _ := ((below_new wc _).cell (p := ⟨p, 0, none⟩) (lt_of_cell hp).1).trans hp
    have HN := Lib.hid hn
    rw [hn] at HR4 HO4
    clear hr4 ho4 hby hn
    go_wp2_with (first
      | (go_at_call 90; refine (encX_any p _).mono ?_; rintro e w' ⟨rfl, rfl⟩)
      | (go_at_call 26; refine (bytX_any p _ n c2 _ k3).mono ?_; rintro e w' ⟨rfl, rfl⟩)
      | (at_builtin; refine list_run 26 26 rfl (.tmp 33) (.tmp 35) rfl rfl rfl rfl HR4.out ?_)
      | fail)
    go_ret3
    exact ⟨_, rfl, HO4.out, bnx hbw hb4⟩

set_option maxRecDepth 100000 in
theorem poolGet2 (a : Option Addr) (n c : Nat) (w : World) : Calls Tryz.prog 135 #[.agg #[], .int .u8 2, .slice a n c] w fun e w' => ∃ p, e = .returned (.tuple #[.iface 120 (.pointer (some ⟨p, 0, none⟩)), .nilIface]) ∧ w'.cell? ⟨p, 0, none⟩ = some (.slice a n c) ∧ Below w.heap.size w w' := by
  have hmr := mResH
  have hb0 := below_new w (.cells #[] 139)
  have hz0 : (w.alloc (.cells #[] 139)).heap.size = w.heap.size + 1 := by simp
  have hn := Blk.new (w.alloc (.cells #[] 139)) [.slice none 0 0, .int .u8 0] 121
  rw [hz0] at hn
  have hnb := below_new (w.alloc (.cells #[] 139)) (.cells #[.slice none 0 0, .int .u8 0] 121)
  rw [hz0] at hnb
  go_enter Tryz.func135, Tryz.ntmps135
  go_wp2_with (first
    | (go_at_call 101; refine (resH_any _ a n c _ _ _ hn).mono ?_; rintro e w1 ⟨rfl, h1, hc1⟩)
    | fail)
  go_ret2
  exact ⟨_, rfl, h1.cell 0, (hb0.trans (hnb.mono (by omega))).trans (hc1.below _ (by simp; omega) (fun k hk => by omega))⟩
set_option maxRecDepth 100000 in
set_option maxHeartbeats 2000000 in
theorem poolBack2 (v : Value) (l : List UInt8) (w : World) (hv : Bytes w v l) (hl : l.length ≤ 2147483647) : Calls Tryz.prog 19 #[v, .int .i64 2] w fun e w' => ∃ x, e = .returned (.tuple #[.int .i64 2, x, .bool true]) ∧ Bytes w' x l ∧ Below w.heap.size w w' := by
  have hmg := get_method
  have hng := get_nil
  have hmf := hmk
  have hme := mEncH
  have hmb := mBytH
  obtain ⟨a, c, rfl, h1, h2⟩ := hv.form
  obtain ⟨v2, w2, hr, ho, hb2, g2, c2, rfl⟩ := copy_bytes w.drew _ _ hv hl
  have hg := poolGet2 (some ⟨g2, 0, none⟩) l.length c2 w2
  have HR := Lib.hid hr
  have HO := Lib.hid ho
  have HV := Lib.hid hv
  clear hr ho hv
  generalize hn : l.length = n at *
  have hbd : Below w.heap.size w w.drew := (Below.refl _ w).drew
  go_enter Tryz.func19, Tryz.ntmps19
  go_wp2_with fail
  have HBy : ∀ W, Below w2.heap.size w2 W → Bytes W (.slice (some ⟨g2, 0, none⟩) n c2) l := fun W hW => by
    have hO := HO.out
    subst hn
    exact (Bytes.own hO).up hW
  go_cut [7, 8] from 15 (fun s7 s8 wx => Got 120 l (some ⟨g2, 0, none⟩) n c2 w s7 s8 wx)
  case first =>
    have hw : IntKind.u8.wrap 2 = 2 := by decide
    go_region_held3 (fun _ => True) (trivial) (first
      | (refine step_run 26 26 rfl (.tmp 19) (.tmp 20) rfl rfl rfl rfl HR.out ?_)
      | (go_at_call 44; refine (newPool_any _).mono ?_; rintro e w' ⟨rfl, rfl⟩)
      | (go_at_call 135; refine hg.mono ?_; rintro e w3 ⟨p, rfl, hp, hb3⟩)
      | fail)
    all_goals
      clear hw
      go_wp2_with fail
      go_meet
      exact Got.intro p hp (HBy _ hb3) (bnx (hbd.trans hb2) hb3)
  case rest =>
    obtain ⟨p, rfl, rfl, hp, hby, hbw⟩ := hcut
    obtain ⟨v4, w4, hr4, ho4, hb4, g4, c4, rfl⟩ := copy_bytes wc _ _ (hn ▸ hby) (by omega)
    have HR4 := Lib.hid hr4
    have HO4 := Lib.hid (Bytes.own ho4)
    have k3 : (wc.alloc (.cells #[] 5)).cell? ⟨p, 0, none⟩ = _ := ((below_new wc _).cell (p := ⟨p, 0, none⟩) (lt_of_cell hp).1).trans hp
    have HN := Lib.hid hn
    rw [hn] at HR4 HO4
    clear hr4 ho4 hby hn
    go_wp2_with (first
      | (go_at_call 98; refine (encH_any p _).mono ?_; rintro e w' ⟨rfl, rfl⟩)
      | (go_at_call 96; refine (bytH_any p _ n c2 _ k3).mono ?_; rintro e w' ⟨rfl, rfl⟩)
      | (at_builtin; refine list_run 26 26 rfl (.tmp 33) (.tmp 35) rfl rfl rfl rfl HR4.out ?_)
      | fail)
    go_ret3
    exact ⟨_, rfl, HO4.out, bnx hbw hb4⟩

set_option maxRecDepth 100000 in
theorem poolGet3 (a : Option Addr) (n c : Nat) (w : World) : Calls Tryz.prog 135 #[.agg #[], .int .u8 3, .slice a n c] w fun e w' => ∃ p, e = .returned (.tuple #[.iface 122 (.pointer (some ⟨p, 0, none⟩)), .nilIface]) ∧ w'.cell? ⟨p, 0, none⟩ = some (.slice a n c) ∧ Below w.heap.size w w' := by
  have hmr := mResF
  have hb0 := below_new w (.cells #[] 139)
  have hz0 : (w.alloc (.cells #[] 139)).heap.size = w.heap.size + 1 := by simp
  have hn := Blk.new (w.alloc (.cells #[] 139)) [.slice none 0 0, .int .u8 0] 123
  rw [hz0] at hn
  have hnb := below_new (w.alloc (.cells #[] 139)) (.cells #[.slice none 0 0, .int .u8 0] 123)
  rw [hz0] at hnb
  go_enter Tryz.func135, Tryz.ntmps135
  go_wp2_with (first
    | (go_at_call 111; refine (resF_any _ a n c _ _ _ hn).mono ?_; rintro e w1 ⟨rfl, h1, hc1⟩)
    | fail)
  go_ret2
  exact ⟨_, rfl, h1.cell 0, (hb0.trans (hnb.mono (by omega))).trans (hc1.below _ (by simp; omega) (fun k hk => by omega))⟩
set_option maxRecDepth 100000 in
set_option maxHeartbeats 2000000 in
theorem poolBack3 (v : Value) (l : List UInt8) (w : World) (hv : Bytes w v l) (hl : l.length ≤ 2147483647) : Calls Tryz.prog 19 #[v, .int .i64 3] w fun e w' => ∃ x, e = .returned (.tuple #[.int .i64 3, x, .bool true]) ∧ Bytes w' x l ∧ Below w.heap.size w w' := by
  have hmg := get_method
  have hng := get_nil
  have hmf := hmk
  have hme := mEncF
  have hmb := mBytF
  obtain ⟨a, c, rfl, h1, h2⟩ := hv.form
  obtain ⟨v2, w2, hr, ho, hb2, g2, c2, rfl⟩ := copy_bytes w.drew _ _ hv hl
  have hg := poolGet3 (some ⟨g2, 0, none⟩) l.length c2 w2
  have HR := Lib.hid hr
  have HO := Lib.hid ho
  have HV := Lib.hid hv
  clear hr ho hv
  generalize hn : l.length = n at *
  have hbd : Below w.heap.size w w.drew := (Below.refl _ w).drew
  go_enter Tryz.func19, Tryz.ntmps19
  go_wp2_with fail
  have HBy : ∀ W, Below w2.heap.size w2 W → Bytes W (.slice (some ⟨g2, 0, none⟩) n c2) l := fun W hW => by
    have hO := HO.out
    subst hn
    exact (Bytes.own hO).up hW
  go_cut [7, 8] from 15 (fun s7 s8 wx => Got 122 l (some ⟨g2, 0, none⟩) n c2 w s7 s8 wx)
  case first =>
    have hw : IntKind.u8.wrap 3 = 3 := by decide
    go_region_held3 (fun _ => True) (trivial) (first
      | (refine step_run 26 26 rfl (.tmp 19) (.tmp 20) rfl rfl rfl rfl HR.out ?_)
      | (go_at_call 44; refine (newPool_any _).mono ?_; rintro e w' ⟨rfl, rfl⟩)
      | (go_at_call 135; refine hg.mono ?_; rintro e w3 ⟨p, rfl, hp, hb3⟩)
      | fail)
    all_goals
      clear hw
      go_wp2_with fail
      go_meet
      exact Got.intro p hp (HBy _ hb3) (bnx (hbd.trans hb2) hb3)
  case rest =>
    obtain ⟨p, rfl, rfl, hp, hby, hbw⟩ := hcut
    obtain ⟨v4, w4, hr4, ho4, hb4, g4, c4, rfl⟩ := copy_bytes wc _ _ (hn ▸ hby) (by omega)
    have HR4 := Lib.hid hr4
    have HO4 := Lib.hid (Bytes.own ho4)
    have k3 : (wc.alloc (.cells #[] 5)).cell? ⟨p, 0, none⟩ = _ := ((below_new wc _).cell (p := ⟨p, 0, none⟩) (lt_of_cell hp).1).trans hp
    have HN := Lib.hid hn
    rw [hn] at HR4 HO4
    clear hr4 ho4 hby hn
    go_wp2_with (first
      | (go_at_call 108; refine (encF_any p _).mono ?_; rintro e w' ⟨rfl, rfl⟩)
      | (go_at_call 106; refine (bytF_any p _ n c2 _ k3).mono ?_; rintro e w' ⟨rfl, rfl⟩)
      | (at_builtin; refine list_run 26 26 rfl (.tmp 33) (.tmp 35) rfl rfl rfl rfl HR4.out ?_)
      | fail)
    go_ret3
    exact ⟨_, rfl, HO4.out, bnx hbw hb4⟩
end Go.Proofs.YthkdjjejcbndnaaGreatDoor
