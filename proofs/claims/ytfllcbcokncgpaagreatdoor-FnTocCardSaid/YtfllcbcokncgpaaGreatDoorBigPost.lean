/-
  Postings over bytes, four for each number.
-/
import Derived.Test.YtfllcbcokncgpaaGreatDoorDec
import Derived.Test.YtfllcbcokncgpaaGreatDoorExpand
namespace Go.Proofs.YtfllcbcokncgpaaGreatDoor
set_option linter.unusedSimpArgs false
set_option linter.unusedVariables false
open Go.RowKit

/-- postings over bytes: at block g, what is left of them, and the one that was told -/
def BP (g B0 B : Nat) (w : World) (r : List UInt8) (c : Int) : Prop :=
  ∃ v, Blk w g [v, .int .u32 c] 167 ∧ BB w g v r ∧ B0 ≤ g ∧ g < B
theorem BP.keep {g B0 B : Nat} {w w' : World} {r : List UInt8} {c : Int} (h : BP g B0 B w r c) {S : Nat → Prop} (hc : Chg S w w') (hs : ∀ k, k < B → ¬ S k) : BP g B0 B w' r c := by
  obtain ⟨v, h1, h2, h3, h4⟩ := h
  exact ⟨v, h1.chg hc (hs g h4), h2.chg hc (Nat.le_of_lt h1.lt) (fun k hk => hs k (by omega)), h3, h4⟩

theorem newBig_any (a : Option Addr) (n c : Nat) (w : World) : Calls Tryz.prog 86 #[.slice a n c] w fun e w' => e = .returned (.pointer (some ⟨w.heap.size, 0, none⟩)) ∧ w' = w.alloc (.cells #[.slice a n c, .int .u32 0] 167) := by
  go_enter Tryz.func86, Tryz.ntmps86
  go_wp2_with fail
  go_ret
  exact ⟨rfl, rfl⟩
set_option maxRecDepth 100000 in
theorem bigAt_any {g B0 B : Nat} {w : World} {r : List UInt8} {c : Int} (h : BP g B0 B w r c) (h0 : 0 ≤ c) (h1 : c < 4294967296) :
    Calls Tryz.prog 151 #[.pointer (some ⟨g, 0, none⟩)] w fun e w' => e = .returned (.int .u64 c) ∧ w = w' := by
  obtain ⟨v, hb, _⟩ := h
  have c1 := hb.cell 1
  go_enter Tryz.func151, Tryz.ntmps151
  go_wp2_with fail
  go_ret
  exact ⟨rfl, rfl⟩
theorem bigErr_any (v : Value) (w : World) :
    Calls Tryz.prog 152 #[v] w fun e w' => e = .returned .nilIface ∧ w = w' := by
  go_enter Tryz.func152, Tryz.ntmps152
  go_wp2_with fail
  go_ret
  exact ⟨rfl, rfl⟩
set_option maxRecDepth 100000 in
theorem bigNext_nil {g B0 B : Nat} {w : World} {c : Int} (h : BP g B0 B w [] c) :
    Calls Tryz.prog 153 #[.pointer (some ⟨g, 0, none⟩)] w fun e w' => e = .returned (.bool false) ∧ w = w' := by
  obtain ⟨v, hb, hB, h3, h4⟩ := h
  obtain ⟨ao, cap, rfl, h1, h2⟩ := hB.form
  have c0 := hb.cell 0
  rw [show ([] : List UInt8).length = 0 from rfl] at *
  go_enter Tryz.func153, Tryz.ntmps153
  go_wp2_with fail
  go_ret
  exact ⟨rfl, rfl⟩
set_option maxRecDepth 100000 in
set_option maxHeartbeats 1000000 in
theorem bigNext_cons {g B0 B : Nat} {w : World} {b0 b1 b2 b3 : UInt8} {r : List UInt8} {c : Int} (h : BP g B0 B w (b0 :: b1 :: b2 :: b3 :: r) c) :
    Calls Tryz.prog 153 #[.pointer (some ⟨g, 0, none⟩)] w fun e w' => e = .returned (.bool true) ∧ BP g B0 B w' r (Lib.beNat [b0, b1, b2, b3] : Nat) ∧ Chg (fun q => q = g) w w' := by
  obtain ⟨v, hD, hB, h3, h4⟩ := h
  obtain ⟨ao, cap, rfl, h1, h2⟩ := hB.form
  obtain ⟨b, off, rfl, hb, hbB, hc⟩ := hB.at_ (by simp)
  have c0 : w.cell? ⟨b, off, none⟩ = some (.int .u8 b0.toNat) := hc 0 (by simp)
  have c1 : w.cell? ⟨b, off + 1, none⟩ = some (.int .u8 b1.toNat) := hc 1 (by simp)
  have c2 : w.cell? ⟨b, off + 2, none⟩ = some (.int .u8 b2.toNat) := hc 2 (by simp)
  have c3 : w.cell? ⟨b, off + 3, none⟩ = some (.int .u8 b3.toNat) := hc 3 (by simp)
  have hdr := hB.drop 4 (by simp)
  rw [show (b0 :: b1 :: b2 :: b3 :: r).drop 4 = r from rfl] at hdr
  have hn : (b0 :: b1 :: b2 :: b3 :: r).length = r.length + 4 := rfl
  clear hc hB
  generalize (b0 :: b1 :: b2 :: b3 :: r).length = n at *
  subst hn
  have hrd := Tryz.binary_BE_Uint32 b off (r.length + 4) cap b0 b1 b2 b3 w.drew (by omega) c0 c1 c2 c3
  have k0 := hD.cell 0
  generalize Lib.beNat [b0, b1, b2, b3] = x at *
  have n1 : (4 : Int) ≤ ((r.length + 4 : Nat) : Int) := by omega
  have n3 : (4 : Int) ≤ (cap : Int) := by omega
  by_cases hk : cap = 4
  · subst hk
    obtain rfl : r = [] := List.length_eq_zero_iff.1 (by omega)
    go_enter Tryz.func153, Tryz.ntmps153
    go_wp2_with fail
    go_region_with (first | (go_at_call 89; refine hrd.mono ?_; rintro e w1 ⟨rfl, hb1⟩; have hc1 := (Chg.refl (fun q => q = g) w).drew.calls hb1; have hD1 := hD.chg ((Chg.refl (fun _ => False) w).drew.calls hb1) (fun h => h); have j0 := hD1.cell 0; have j1 := hD1.cell 1; have z0 := hD1.free 0; have z1 := hD1.free 1) | fail)
    all_goals
      go_wp2_with fail
      go_ret
      exact ⟨rfl, ⟨_, (hD1.set 1 (.int .u32 x)).set 0 _, BB.empty _ _ _, h3, h4⟩, (hc1.setCell ⟨g, 1, none⟩ rfl (.int .u32 x)).setCell ⟨g, 0, none⟩ rfl _⟩
  · have hk1 : ¬ (cap : Int) = 4 := by omega
    go_enter Tryz.func153, Tryz.ntmps153
    go_wp2_with fail
    go_region_with (first | (go_at_call 89; refine hrd.mono ?_; rintro e w1 ⟨rfl, hb1⟩; have hc1 := (Chg.refl (fun q => q = g) w).drew.calls hb1; have hD1 := hD.chg ((Chg.refl (fun _ => False) w).drew.calls hb1) (fun h => h); have j0 := hD1.cell 0; have j1 := hD1.cell 1; have z0 := hD1.free 0; have z1 := hD1.free 1) | fail)
    all_goals
      go_wp2_with fail
      go_ret
      have hcc := fun u => (hc1.setCell ⟨g, 1, none⟩ rfl (.int .u32 x)).setCell ⟨g, 0, none⟩ rfl u
      exact ⟨rfl, ⟨_, (hD1.set 1 (.int .u32 x)).set 0 _, BB.chg hdr (hcc _) (by omega) (fun q hq => by omega), h3, h4⟩, hcc _⟩

theorem bN (t : World) (g : Nat) : (method 325 128 (.pointer (some ⟨g, 0, none⟩)) "Next").run Tryz.prog t = .ok (153, .pointer (some ⟨g, 0, none⟩)) t := by kernel_rfl
theorem bA (t : World) (g : Nat) : (method 325 128 (.pointer (some ⟨g, 0, none⟩)) "At").run Tryz.prog t = .ok (151, .pointer (some ⟨g, 0, none⟩)) t := by kernel_rfl
theorem bE (t : World) (g : Nat) : (method 325 128 (.pointer (some ⟨g, 0, none⟩)) "Err").run Tryz.prog t = .ok (152, .pointer (some ⟨g, 0, none⟩)) t := by kernel_rfl

theorem nums4_range : ∀ (n : Nat) (l : List UInt8), l.length ≤ n → ∀ x ∈ nums4 l, 0 ≤ x ∧ x < 4294967296
  | 0, l, h, x, hx => by
    obtain rfl : l = [] := List.length_eq_zero_iff.1 (by omega)
    simp [nums4] at hx
  | n + 1, l, h, x, hx => by
    by_cases h4 : 4 ≤ l.length
    · obtain ⟨b0, b1, b2, b3, e, e2⟩ := nums4_cons h4
      rw [e2] at hx
      rcases List.mem_cons.1 hx with rfl | hx
      · have := beNat_lt [b0, b1, b2, b3]
        simp at this
        omega
      · exact nums4_range n (l.drop 4) (by rw [List.length_drop]; omega) x hx
    · match l, h4, hx with
      | [], _, hx => simp [nums4] at hx
      | [_], _, hx => simp [nums4] at hx
      | [_, _], _, hx => simp [nums4] at hx
      | [_, _, _], _, hx => simp [nums4] at hx
      | _ :: _ :: _ :: _ :: _, h4, _ => simp at h4

def bpI (g B0 B : Nat) (c : Option Int) (r : List Int) (w : World) : Prop :=
  ∃ bs cur, bs.length = 4 * r.length ∧ nums4 bs = r ∧ BP g B0 B w bs cur ∧ ∀ x, c = some x → cur = x ∧ 0 ≤ x ∧ x < 4294967296
theorem bp_iter (g B0 B : Nat) : PIter 128 (.pointer (some ⟨g, 0, none⟩)) 153 151 152 B0 B (bpI g B0 B) where
  mN t := bN t g
  mA t := bA t g
  mE t := bE t g
  cN t := by kernel_rfl
  cA t := by kernel_rfl
  cE t := by kernel_rfl
  nextNil c w h := by
    obtain ⟨bs, cur, h1, h2, h3, h4⟩ := h
    obtain rfl : bs = [] := List.length_eq_zero_iff.1 (by simpa using h1)
    exact (bigNext_nil h3).mono fun e w' ⟨he, hw⟩ => ⟨he, hw ▸ ⟨[], cur, rfl, rfl, h3, fun x hx => by cases hx⟩, hw ▸ Chg.refl _ _⟩
  nextCons c x r w h := by
    obtain ⟨bs, cur, h1, h2, h3, h4⟩ := h
    have h5 := h3
    obtain ⟨_, _, _, q1, q2⟩ := h5
    obtain ⟨b0, b1, b2, b3, e, e2⟩ := nums4_cons (l := bs) (by rw [h1, List.length_cons]; omega)
    have hr := nums4_range bs.length bs (Nat.le_refl _) x (by rw [h2]; simp)
    rw [e2] at h2
    injection h2 with h2 h6
    have h7 : (bs.drop 4).length = 4 * r.length := by rw [List.length_drop, h1, List.length_cons]; omega
    generalize bs.drop 4 = r' at *
    subst e
    exact (bigNext_cons h3).mono fun e w' ⟨he, hr', hc⟩ => ⟨he, ⟨_, _, h7, h6, hr', fun y hy => by injection hy with hy; subst hy; exact ⟨h2, hr⟩⟩, hc.mono fun k hk => by omega⟩
  at_ x r w h := by
    obtain ⟨bs, cur, h1, h2, h3, h4⟩ := h
    obtain ⟨rfl, h5, h6⟩ := h4 x rfl
    exact (bigAt_any h3 h5 h6).mono fun e w' ⟨he, hw⟩ => ⟨he, hw ▸ ⟨bs, cur, h1, h2, h3, h4⟩, hw ▸ Chg.refl _ _⟩
  err w h := (bigErr_any _ w).mono fun e w' ⟨he, hw⟩ => ⟨he, hw ▸ Chg.refl _ _⟩
  keep c r w w' h hc := by
    obtain ⟨bs, cur, h1, h2, h3, h4⟩ := h
    exact ⟨bs, cur, h1, h2, h3.keep hc (fun k hk => by omega), h4⟩
end Go.Proofs.YtfllcbcokncgpaaGreatDoor
