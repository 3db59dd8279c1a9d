/-
  spec.Sealed, spec.SealedVar: all ways joined.
-/
import Derived.Test.YtkbkggamfkadnaaGreatDoorSealed
namespace Go.Proofs.YtkbkggamfkadnaaGreatDoor
set_option linter.unusedSimpArgs false
set_option linter.unusedVariables false
open Go.RowKit

theorem uvar_le : ∀ (l : List UInt8), (uvar l).2 ≤ l.length
  | [] => Nat.le_refl _
  | b :: r => by
    have := uvar_le r
    unfold uvar
    split
    · simp
    · split
      · simp
      · simp; omega
theorem uvar_lt : ∀ (l : List UInt8), (uvar l).1 < 128 ^ l.length * 2
  | [] => by decide
  | b :: r => by
    have h1 := uvar_lt r
    have h2 := b.toNat_lt
    have h3 : 0 < 128 ^ r.length := Nat.pow_pos (by decide)
    unfold uvar
    rw [List.length_cons, Nat.pow_succ]
    split
    · simp only; omega
    · split
      · simp only; omega
      · simp only; omega

set_option maxRecDepth 100000 in
set_option maxHeartbeats 2000000 in
theorem sealed_end (b off t : Nat) (l : List UInt8) (w : World) (h : Bytes w (.slice (some ⟨b, off, none⟩) (t + 4) (t + 4)) l) (hm : l.length = t + 4) (ht : t ≤ 65535) (hcap : t + 4 ≤ maxLen) :
    Calls Tryz.prog 13 #[.slice (some ⟨b, off, none⟩) (t + 4) (t + 4), .int .i64 t] w fun e w' => e = .returned (.tuple #[.slice none 0 0, .int .i64 1]) ∧ ∃ q, w' = w.drewN q := by
  have i6 : Bytes w (.slice (some ⟨b, off + t, none⟩) 4 (t + 4 - t)) ((l.drop t).take 4) := BB.from_ h t 4 (by omega)
  have g6 := fun q => big_any _ _ (w.drewN q) (i6.up (below_drewN (Below.refl _ _) q)) (by rw [List.length_take]; omega)
  have hn : Lib.beNat ((l.drop t).take 4) < 18446744073709551616 := by
    have := beNat_lt ((l.drop t).take 4)
    rw [List.length_take, List.length_drop, show min 4 (l.length - t) = 4 by omega] at this
    exact Nat.lt_trans this (by decide)
  generalize Lib.beNat ((l.drop t).take 4) = n at *
  have hE : ∀ q, Calls Tryz.prog 46 #[.slice (some ⟨b, off, none⟩) 0 0, .int .u64 n] (w.drewN q) fun e w' => e = .returned (.tuple #[.slice none 0 0, .int .i64 1]) ∧ w.drewN q = w' := fun q =>
    ended_size _ [] n _ (BB.empty _ _ _ : BB (w.drewN q) (w.drewN q).heap.size _ []) (by simp) hn (by simp)
  clear h i6 hm
  have n2 : (0 : Int) ≤ (t : Int) := by omega
  have n3 : (t : Int) ≤ 65535 := by omega
  have n4 : ¬ (t : Int) + 4 < (t : Int) := by omega
  have n5 : ¬ (t : Int) + 4 - (t : Int) < 4 := by omega
  have n8 : ¬ t + 4 = t := by omega
  have n9 : t + 4 - t = 4 := by omega
  rw [n9] at g6
  have n10 : (t : Int) ≤ (t : Int) + 4 := by omega
  go_enter Tryz.func13, Tryz.ntmps13
  go_wp2_with fail
  go_quiet (first
    | (go_at_call 22; refine (g6 _).mono ?_; rintro e w' ⟨rfl, rfl⟩; exact ⟨rfl, _, rfl⟩)
    | (go_at_call 46; refine (hE _).mono ?_; rintro e w' ⟨rfl, rfl⟩; exact ⟨rfl, _, rfl⟩)
    | fail)
  go_wp2_with fail
  go_ret2
  exact ⟨rfl, nq, rfl⟩
set_option maxRecDepth 100000 in
set_option maxHeartbeats 2000000 in
theorem sealedVar_end (b off t n : Nat) (l : List UInt8) (w : World) (h : Bytes w (.slice (some ⟨b, off, none⟩) (t + 5) (t + 5)) l) (hm : l.length = t + 5) (ht : t ≤ 65535) (hcap : t + 5 ≤ maxLen) (hn : uvar ((l.drop t).take 5) = (n, 5)) :
    Calls Tryz.prog 14 #[.slice (some ⟨b, off, none⟩) (t + 5) (t + 5), .int .i64 t] w fun e w' => e = .returned (.tuple #[.slice none 0 0, .int .i64 1]) ∧ w = w' := by
  have i6 : Bytes w (.slice (some ⟨b, off + t, none⟩) 5 (t + 5 - t)) ((l.drop t).take 5) := BB.from_ h t 5 (by omega)
  have g6 := var5_any _ _ _ _ w i6 (by rw [List.length_take, List.length_drop]; omega)
  have hl := uvar_lt ((l.drop t).take 5)
  rw [hn] at g6 hl
  rw [List.length_take, List.length_drop, show min 5 (l.length - t) = 5 by omega] at hl
  have hl2 : n < 18446744073709551616 := Nat.lt_trans hl (by decide)
  have hE : Calls Tryz.prog 46 #[.slice (some ⟨b, off, none⟩) 0 0, .int .u64 n] w fun e w' => e = .returned (.tuple #[.slice none 0 0, .int .i64 1]) ∧ w = w' :=
    ended_size _ [] n _ (BB.empty _ _ _ : BB w w.heap.size _ []) (by simp) hl2 (by simp)
  clear h i6 hm hn hl hl2
  have n2 : (0 : Int) ≤ (t : Int) := by omega
  have n3 : (t : Int) ≤ 65535 := by omega
  have n4 : ¬ (t : Int) + 5 < (t : Int) := by omega
  have n5 : ¬ (t : Int) + 5 - (t : Int) < 5 := by omega
  have n8 : ¬ t + 5 = t := by omega
  have n9 : t + 5 - t = 5 := by omega
  rw [n9] at g6
  have n10 : (t : Int) ≤ (t : Int) + 5 := by omega
  go_enter Tryz.func14, Tryz.ntmps14
  go_wp2_with (first
    | (go_at_call 20; refine g6.mono ?_; rintro e w' ⟨rfl, rfl⟩)
    | (go_at_call 46; refine hE.mono ?_; rintro e w' ⟨rfl, rfl⟩)
    | fail)
  go_ret2
  exact ⟨rfl, rfl⟩

theorem ended_cases (b off cap m p n : Nat) (l : List UInt8) (w : World) (h : Bytes w (.slice (some ⟨b, off, none⟩) m cap) l) (hm : l.length = m) (hp : p ≤ m) (hl : m ≤ 2147483647) (hcm : m ≤ cap) (hcap : cap ≤ maxLen) (hn : n < 18446744073709551616) :
    ∃ va vk vc, (endHow (l.drop p) n = 0 → Bytes w (.slice va vk vc) ((l.drop p).take n)) ∧ ∀ q, Calls Tryz.prog 46 #[.slice (some ⟨b, off + p, none⟩) (m - p) (cap - p), .int .u64 n] (w.drewN q) fun e w' => e = .returned (.tuple #[.slice va vk vc, .int .i64 (endHow (l.drop p) n)]) ∧ ∃ r, w' = (w.drewN q).drewN r := by
  have hD : Bytes w (.slice (some ⟨b, off + p, none⟩) (m - p) (cap - p)) (l.drop p) := by
    have := BB.from_ h p (m - p) (by omega)
    rw [List.take_of_length_le (by rw [List.length_drop]; omega)] at this
    exact this
  have hDl : (l.drop p).length = m - p := by rw [List.length_drop]; omega
  unfold endHow
  by_cases h1 : (l.drop p).length < n + 4
  · rw [if_pos h1]
    refine ⟨none, 0, 0, (fun h => absurd h (by decide)), fun q => (ended_size _ (l.drop p) n _ (hD.up (below_drewN (Below.refl _ _) q)) (by omega) hn h1).mono ?_⟩
    rintro e w' ⟨he, rfl⟩
    exact ⟨he, 0, by rw [drewN_drewN]; rfl⟩
  · rw [if_neg h1]
    by_cases h2 : Lib.beNat (((l.drop p).drop n).take 4) = crcOf ((l.drop p).take n)
    · rw [if_pos h2]
      refine ⟨_, _, _, fun _ => ?_, fun q => ended_fine b (off + p) (cap - p) (m - p) (l.drop p) n _ (hD.up (below_drewN (Below.refl _ _) q)) hDl (by omega) (by omega) (by omega) (by omega) h2⟩
      have : BB w w.heap.size (.slice (some ⟨b, off + p, none⟩) n (cap - p)) ((l.drop p).take n) := by simpa using BB.from_ hD 0 n (by omega)
      exact this
    · rw [if_neg h2]
      exact ⟨none, 0, 0, (fun h => absurd h (by decide)), fun q => ended_sum b (off + p) (cap - p) (m - p) (l.drop p) n _ (hD.up (below_drewN (Below.refl _ _) q)) hDl (by omega) (by omega) (by omega) (by omega) h2⟩

/-- bytes, and what is wrong -/
def SRes (how : Int) (L : List UInt8) (w : World) (e : Ending) (w' : World) : Prop := ∃ a k c, e = .returned (.tuple #[.slice a k c, .int .i64 how]) ∧ (how = 0 → Bytes w (.slice a k c) L) ∧ ∃ q, w' = w.drewN q
theorem endHow_nil (n : Nat) : endHow [] n = 1 := by
  unfold endHow
  rw [if_pos (by simp)]
theorem sealed_any (v : Value) (l : List UInt8) (t : Nat) (w : World) (h : Bytes w v l) (ht : t ≤ 65535) (hl : l.length ≤ 2147483647) :
    Calls Tryz.prog 13 #[v, .int .i64 t] w (SRes (sealHow l t) (sealGot l t) w) := by
  unfold sealHow
  by_cases hs : l.length < t + 4
  · rw [if_pos hs]
    refine (sealed_short v l t w h ht hl hs).mono ?_
    rintro e w' ⟨he, rfl⟩
    exact ⟨_, _, _, he, (fun h => absurd h (by decide)), 0, rfl⟩
  · rw [if_neg hs]
    obtain ⟨ao, cap, rfl, h1, h2⟩ := h.form
    obtain ⟨b, off, rfl, _, _⟩ := h.at_ (by omega)
    have hn : Lib.beNat ((l.drop t).take 4) < 18446744073709551616 := by
      have := beNat_lt ((l.drop t).take 4)
      rw [List.length_take, List.length_drop, show min 4 (l.length - t) = 4 by omega] at this
      exact Nat.lt_trans this (by decide)
    by_cases hc : cap = t + 4
    · subst hc
      have hm : l.length = t + 4 := by omega
      have hd : l.drop (t + 4) = [] := List.drop_eq_nil_of_le (by omega)
      rw [hm] at h ⊢
      rw [hd, endHow_nil]
      refine (sealed_end b off t l w h hm ht h2).mono ?_
      rintro e w' ⟨he, hq⟩
      exact ⟨_, _, _, he, (fun h => absurd h (by decide)), hq⟩
    · obtain ⟨va, vk, vc, hB, hE⟩ := ended_cases b off cap l.length (t + 4) _ l w h rfl (by omega) hl h1 h2 hn
      refine (sealed_in b off cap l.length l t _ w h rfl ht (by omega) hl h1 h2 rfl hc va vk vc _ hE).mono ?_
      rintro e w' ⟨he, hq⟩
      exact ⟨_, _, _, he, hB, hq⟩
theorem sealedVar_any (v : Value) (l : List UInt8) (t : Nat) (w : World) (h : Bytes w v l) (ht : t ≤ 65535) (hl : l.length ≤ 2147483647) :
    Calls Tryz.prog 14 #[v, .int .i64 t] w (SRes (varHow l t) (varGot l t) w) := by
  unfold varHow varGot
  by_cases hs : l.length < t + 5
  · rw [if_pos hs]
    refine (sealedVar_short v l t w h ht hl hs).mono ?_
    rintro e w' ⟨he, rfl⟩
    exact ⟨_, _, _, he, (fun h => absurd h (by decide)), 0, rfl⟩
  · rw [if_neg hs]
    obtain ⟨ao, cap, rfl, h1, h2⟩ := h.form
    obtain ⟨b, off, rfl, _, _⟩ := h.at_ (by omega)
    have hu5 := uvar_le ((l.drop t).take 5)
    have hlt := uvar_lt ((l.drop t).take 5)
    rw [List.length_take, List.length_drop, show min 5 (l.length - t) = 5 by omega] at hu5 hlt
    obtain ⟨n, u, hnu⟩ : ∃ n u, uvar ((l.drop t).take 5) = (n, u) := ⟨_, _, rfl⟩
    rw [hnu] at hu5 hlt ⊢
    simp only at hu5 hlt ⊢
    have hn : n < 18446744073709551616 := Nat.lt_trans hlt (by decide)
    by_cases hu : u = 0
    · rw [if_pos hu]
      refine (sealedVar_none b off cap l.length l t w h rfl ht (by omega) hl h1 h2 (by rw [hnu]; exact hu)).mono ?_
      rintro e w' ⟨he, rfl⟩
      exact ⟨_, _, _, he, (fun h => absurd h (by decide)), 0, rfl⟩
    · rw [if_neg hu]
      by_cases hc : cap = t + u
      · obtain rfl : u = 5 := by omega
        subst hc
        have hm : l.length = t + 5 := by omega
        have hd : l.drop (t + 5) = [] := List.drop_eq_nil_of_le (by omega)
        rw [hm] at h ⊢
        rw [hd, endHow_nil]
        refine (sealedVar_end b off t n l w h hm ht h2 hnu).mono ?_
        rintro e w' ⟨he, rfl⟩
        exact ⟨_, _, _, he, (fun h => absurd h (by decide)), 0, rfl⟩
      · obtain ⟨va, vk, vc, hB, hE⟩ := ended_cases b off cap l.length (t + u) n l w h rfl (by omega) hl h1 h2 hn
        refine (sealedVar_in b off cap l.length l t n u w h rfl ht (by omega) hl h1 h2 hnu (by omega) hu5 hc va vk vc _ (hE 0)).mono ?_
        rintro e w' ⟨he, hq⟩
        exact ⟨_, _, _, he, hB, hq⟩
end Go.Proofs.YtkbkggamfkadnaaGreatDoor
