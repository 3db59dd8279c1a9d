/-
  spec.Sealed, spec.SealedVar.
-/
import Derived.Test.YtkbkggamfkadnaaGreatDoorEnded
import Derived.Test.YtkbkggamfkadnaaGreatDoorVar5
namespace Go.Proofs.YtkbkggamfkadnaaGreatDoor
set_option linter.unusedSimpArgs false
set_option linter.unusedVariables false
open Go.RowKit

theorem drewN_drewN (w : World) (p q : Nat) : (w.drewN p).drewN q = w.drewN (p + q) := by
  unfold World.drewN
  simp [Nat.add_assoc]

set_option maxRecDepth 100000 in
set_option maxHeartbeats 2000000 in
theorem sealed_short (v : Value) (l : List UInt8) (t : Nat) (w : World) (h : Bytes w v l) (ht : t ≤ 65535) (hl : l.length ≤ 2147483647) (hs : l.length < t + 4) :
    Calls Tryz.prog 13 #[v, .int .i64 t] w fun e w' => e = .returned (.tuple #[.slice none 0 0, .int .i64 1]) ∧ w = w' := by
  obtain ⟨ao, cap, rfl, h1, h2⟩ := h.form
  clear h
  generalize l.length = m at *
  have n0 : (0 : Int) ≤ (m : Int) := by omega
  have n1 : (m : Int) ≤ 2147483647 := by omega
  have n2 : (0 : Int) ≤ (t : Int) := by omega
  have n3 : (t : Int) ≤ 65535 := by omega
  by_cases c1 : m < t
  · have n4 : (m : Int) < (t : Int) := by omega
    go_enter Tryz.func13, Tryz.ntmps13
    go_wp2_with fail
    go_ret2
    exact ⟨rfl, rfl⟩
  · have n4 : ¬ (m : Int) < (t : Int) := by omega
    have n5 : (m : Int) - (t : Int) < 4 := by omega
    go_enter Tryz.func13, Tryz.ntmps13
    go_wp2_with fail
    go_ret2
    exact ⟨rfl, rfl⟩

set_option maxRecDepth 100000 in
set_option maxHeartbeats 2000000 in
theorem sealed_in (b off cap m : Nat) (l : List UInt8) (t n : Nat) (w : World) (h : Bytes w (.slice (some ⟨b, off, none⟩) m cap) l) (hm : l.length = m) (ht : t ≤ 65535) (hs : t + 4 ≤ m) (hl : m ≤ 2147483647) (hcm : m ≤ cap) (hcap : cap ≤ maxLen) (hn : Lib.beNat ((l.drop t).take 4) = n) (hne : ¬ cap = t + 4) (va : Option Addr) (vk vc : Nat) (how : Int)
    (hE : ∀ q, Calls Tryz.prog 46 #[.slice (some ⟨b, off + (t + 4), none⟩) (m - (t + 4)) (cap - (t + 4)), .int .u64 n] (w.drewN q) fun e w' => e = .returned (.tuple #[.slice va vk vc, .int .i64 how]) ∧ ∃ r, w' = (w.drewN q).drewN r) :
    Calls Tryz.prog 13 #[.slice (some ⟨b, off, none⟩) m cap, .int .i64 t] w fun e w' => e = .returned (.tuple #[.slice va vk vc, .int .i64 how]) ∧ ∃ q, w' = w.drewN q := by
  have i6 : Bytes w (.slice (some ⟨b, off + t, none⟩) 4 (cap - t)) ((l.drop t).take 4) := BB.from_ h t 4 (by omega)
  have g6 := fun q => big_any _ _ (w.drewN q) (i6.up (below_drewN (Below.refl _ _) q)) (by rw [List.length_take]; omega)
  rw [hn] at g6
  clear h i6 hn hm
  have n0 : (0 : Int) ≤ (m : Int) := by omega
  have n1 : (m : Int) ≤ 2147483647 := by omega
  have n2 : (0 : Int) ≤ (t : Int) := by omega
  have n3 : (t : Int) ≤ 65535 := by omega
  have n4 : ¬ (m : Int) < (t : Int) := by omega
  have n5 : ¬ (m : Int) - (t : Int) < 4 := by omega
  have n6 : (t : Int) + 4 ≤ (m : Int) := by omega
  have n7 : (t : Int) + 4 ≤ (cap : Int) := by omega
  have n8 : ¬ cap = t := by omega
  have n9 : t + 4 - t = 4 := by omega
  have n10 : (t : Int) ≤ (t : Int) + 4 := by omega
  have n11 : (m : Int) ≤ (cap : Int) := by omega
  go_enter Tryz.func13, Tryz.ntmps13
  go_wp2_with fail
  go_quiet (first
    | (go_at_call 22; refine (g6 _).mono ?_; rintro e w' ⟨rfl, rfl⟩; exact ⟨rfl, _, rfl⟩)
    | (go_at_call 46; refine (hE _).mono ?_; rintro e w' ⟨rfl, r, rfl⟩; exact ⟨rfl, _, drewN_drewN _ _ _⟩)
    | fail)
  go_wp2_with fail
  go_ret2
  exact ⟨rfl, nq, rfl⟩

set_option maxRecDepth 100000 in
set_option maxHeartbeats 2000000 in
theorem sealedVar_short (v : Value) (l : List UInt8) (t : Nat) (w : World) (h : Bytes w v l) (ht : t ≤ 65535) (hl : l.length ≤ 2147483647) (hs : l.length < t + 5) :
    Calls Tryz.prog 14 #[v, .int .i64 t] w fun e w' => e = .returned (.tuple #[.slice none 0 0, .int .i64 1]) ∧ w = w' := by
  obtain ⟨ao, cap, rfl, h1, h2⟩ := h.form
  clear h
  generalize l.length = m at *
  have n0 : (0 : Int) ≤ (m : Int) := by omega
  have n1 : (m : Int) ≤ 2147483647 := by omega
  have n2 : (0 : Int) ≤ (t : Int) := by omega
  have n3 : (t : Int) ≤ 65535 := by omega
  by_cases c1 : m < t
  · have n4 : (m : Int) < (t : Int) := by omega
    go_enter Tryz.func14, Tryz.ntmps14
    go_wp2_with fail
    go_ret2
    exact ⟨rfl, rfl⟩
  · have n4 : ¬ (m : Int) < (t : Int) := by omega
    have n5 : (m : Int) - (t : Int) < 5 := by omega
    go_enter Tryz.func14, Tryz.ntmps14
    go_wp2_with fail
    go_ret2
    exact ⟨rfl, rfl⟩
set_option maxRecDepth 100000 in
set_option maxHeartbeats 2000000 in
theorem sealedVar_none (b off cap m : Nat) (l : List UInt8) (t : Nat) (w : World) (h : Bytes w (.slice (some ⟨b, off, none⟩) m cap) l) (hm : l.length = m) (ht : t ≤ 65535) (hs : t + 5 ≤ m) (hl : m ≤ 2147483647) (hcm : m ≤ cap) (hcap : cap ≤ maxLen) (hn : (uvar ((l.drop t).take 5)).2 = 0) :
    Calls Tryz.prog 14 #[.slice (some ⟨b, off, none⟩) m cap, .int .i64 t] w fun e w' => e = .returned (.tuple #[.slice none 0 0, .int .i64 3]) ∧ w = w' := by
  have i6 : Bytes w (.slice (some ⟨b, off + t, none⟩) 5 (cap - t)) ((l.drop t).take 5) := BB.from_ h t 5 (by omega)
  have g6 := var5_any _ _ _ _ w i6 (by rw [List.length_take, List.length_drop]; omega)
  rw [hn] at g6
  clear h i6 hn hm
  generalize (((uvar ((l.drop t).take 5)).1 : Nat) : Int) = z at *
  have n0 : (0 : Int) ≤ (m : Int) := by omega
  have n1 : (m : Int) ≤ 2147483647 := by omega
  have n2 : (0 : Int) ≤ (t : Int) := by omega
  have n3 : (t : Int) ≤ 65535 := by omega
  have n4 : ¬ (m : Int) < (t : Int) := by omega
  have n5 : ¬ (m : Int) - (t : Int) < 5 := by omega
  have n7 : (t : Int) + 5 ≤ (cap : Int) := by omega
  have n8 : ¬ cap = t := by omega
  have n9 : t + 5 - t = 5 := by omega
  have n10 : (t : Int) ≤ (t : Int) + 5 := by omega
  go_enter Tryz.func14, Tryz.ntmps14
  go_wp2_with (first
    | (go_at_call 20; refine g6.mono ?_; rintro e w' ⟨rfl, rfl⟩)
    | fail)
  go_ret2
  exact ⟨rfl, rfl⟩
set_option maxRecDepth 100000 in
set_option maxHeartbeats 2000000 in
theorem sealedVar_in (b off cap m : Nat) (l : List UInt8) (t n u : Nat) (w : World) (h : Bytes w (.slice (some ⟨b, off, none⟩) m cap) l) (hm : l.length = m) (ht : t ≤ 65535) (hs : t + 5 ≤ m) (hl : m ≤ 2147483647) (hcm : m ≤ cap) (hcap : cap ≤ maxLen) (hn : uvar ((l.drop t).take 5) = (n, u)) (hu0 : 0 < u) (hu5 : u ≤ 5) (hne : ¬ cap = t + u) (va : Option Addr) (vk vc : Nat) (how : Int)
    (hE : Calls Tryz.prog 46 #[.slice (some ⟨b, off + (t + u), none⟩) (m - (t + u)) (cap - (t + u)), .int .u64 n] w fun e w' => e = .returned (.tuple #[.slice va vk vc, .int .i64 how]) ∧ ∃ r, w' = w.drewN r) :
    Calls Tryz.prog 14 #[.slice (some ⟨b, off, none⟩) m cap, .int .i64 t] w fun e w' => e = .returned (.tuple #[.slice va vk vc, .int .i64 how]) ∧ ∃ q, w' = w.drewN q := by
  have i6 : Bytes w (.slice (some ⟨b, off + t, none⟩) 5 (cap - t)) ((l.drop t).take 5) := BB.from_ h t 5 (by omega)
  have g6 := var5_any _ _ _ _ w i6 (by rw [List.length_take, List.length_drop]; omega)
  rw [hn] at g6
  clear h i6 hn hm
  have n0 : (0 : Int) ≤ (m : Int) := by omega
  have n1 : (m : Int) ≤ 2147483647 := by omega
  have n2 : (0 : Int) ≤ (t : Int) := by omega
  have n3 : (t : Int) ≤ 65535 := by omega
  have n4 : ¬ (m : Int) < (t : Int) := by omega
  have n5 : ¬ (m : Int) - (t : Int) < 5 := by omega
  have n6 : (t : Int) + (u : Int) ≤ (m : Int) := by omega
  have n7 : (t : Int) + 5 ≤ (cap : Int) := by omega
  have n8 : ¬ cap = t := by omega
  have n9 : t + 5 - t = 5 := by omega
  have n10 : (t : Int) ≤ (t : Int) + 5 := by omega
  have n11 : (m : Int) ≤ (cap : Int) := by omega
  have n12 : ¬ (u : Int) ≤ 0 := by omega
  have n13 : (u : Int) ≤ 5 := by omega
  have n14 : (0 : Int) ≤ (t : Int) + (u : Int) := by omega
  go_enter Tryz.func14, Tryz.ntmps14
  go_wp2_with (first
    | (go_at_call 20; refine g6.mono ?_; rintro e w' ⟨rfl, rfl⟩)
    | (go_at_call 46; refine hE.mono ?_; rintro e w' ⟨rfl, r, rfl⟩)
    | fail)
  go_ret2
  exact ⟨rfl, r, rfl⟩
end Go.Proofs.YtkbkggamfkadnaaGreatDoor
