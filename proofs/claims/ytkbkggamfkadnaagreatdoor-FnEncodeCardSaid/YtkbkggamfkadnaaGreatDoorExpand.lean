/-
  ExpandPostings over any postings.
-/
import Derived.Test.YtkbkggamfkadnaaGreatDoorPost
import Derived.Deep.LoopGhost
namespace Go.Proofs.YtkbkggamfkadnaaGreatDoor
set_option linter.unusedSimpArgs false
set_option linter.unusedVariables false
open Go.RowKit

/-- postings that yield a list: their steps; what they are made of lies between two blocks -/
structure PIter (T : TypeId) (rc : Value) (fN fA fE : FuncId) (B0 B : Nat) (I : Option Int → List Int → World → Prop) : Prop where
  mN : ∀ t : World, (method 296 T rc "Next").run Tryz.prog t = .ok (fN, rc) t
  mA : ∀ t : World, (method 296 T rc "At").run Tryz.prog t = .ok (fA, rc) t
  mE : ∀ t : World, (method 296 T rc "Err").run Tryz.prog t = .ok (fE, rc) t
  cN : ∀ t : World, (callFunc fN #[rc]).run Tryz.prog t = .ok (.enter fN #[rc]) t
  cA : ∀ t : World, (callFunc fA #[rc]).run Tryz.prog t = .ok (.enter fA #[rc]) t
  cE : ∀ t : World, (callFunc fE #[rc]).run Tryz.prog t = .ok (.enter fE #[rc]) t
  nextNil : ∀ c w, I c [] w → Calls Tryz.prog fN #[rc] w fun e w' => e = .returned (.bool false) ∧ I none [] w' ∧ Chg (fun k => B0 ≤ k ∧ k < B) w w'
  nextCons : ∀ c x r w, I c (x :: r) w → Calls Tryz.prog fN #[rc] w fun e w' => e = .returned (.bool true) ∧ I (some x) r w' ∧ Chg (fun k => B0 ≤ k ∧ k < B) w w'
  at_ : ∀ x r w, I (some x) r w → Calls Tryz.prog fA #[rc] w fun e w' => e = .returned (.int .u64 x) ∧ I (some x) r w' ∧ Chg (fun k => B0 ≤ k ∧ k < B) w w'
  err : ∀ w, I none [] w → Calls Tryz.prog fE #[rc] w fun e w' => e = .returned .nilIface ∧ Chg (fun k => B0 ≤ k ∧ k < B) w w'
  keep : ∀ c r w w', I c r w → Chg (fun k => B ≤ k) w w' → I c r w'

theorem Chg.hi {B0 B : Nat} {w w' : World} (h : Chg (fun k => B ≤ k) w w') (hB : B0 ≤ B) : Chg (fun k => B0 ≤ k) w w' := h.mono fun k hk => by omega
theorem Chg.lo {B0 B : Nat} {w w' : World} (h : Chg (fun k => B0 ≤ k ∧ k < B) w w') : Chg (fun k => B0 ≤ k) w w' := h.mono fun k hk => hk.1

set_option maxRecDepth 100000 in
set_option maxHeartbeats 1000000 in
theorem expandP_any {T : TypeId} {rc : Value} {fN fA fE : FuncId} {B0 B : Nat} {I : Option Int → List Int → World → Prop} (H : PIter T rc fN fA fE B0 B I) (L : List Int) (w : World) (hI : I none L w) (hB : B0 ≤ B) (hw : w.heap.size = B) (hL : L.length ≤ 2147483646) :
    Calls Tryz.prog 85 #[.iface T rc] w fun e w' => ∃ x, e = .returned (.tuple #[x, .nilIface]) ∧ w'.ownsRow B 140 1 x L.length (L.map (Value.int .u64)) ∧ Chg (fun k => B0 ≤ k) w w' := by
  obtain ⟨i0, hi, hz0, hz1, hz2⟩ := info_parts infoRef
  have hmN := H.mN
  have hmA := H.mA
  have hmE := H.mE
  have hcN := H.cN
  have hcA := H.cA
  have hcE := H.cE
  go_enter Tryz.func85, Tryz.ntmps85
  go_wp2_with fail
  go_loopg [2] L.length (fun kx v wr => ∃ k c, k + kx = L.length ∧ I c (L.drop k) wr ∧ wr.ownsRow B 140 1 v k ((L.take k).map (Value.int .u64)) ∧ Chg (fun k => B0 ≤ k) w wr)
  case atStart => exact ⟨0, none, by omega, hI, World.ownsRow_nil _ _ _ _, Chg.refl _ _⟩
  case round => as_aux_lemma =>
    obtain ⟨k, c, hk, hIk, hown, hch⟩ := hrel
    obtain ⟨za, zc, rfl⟩ := own_form hown
    have hz := hch.size
    by_cases hlt : k < L.length
    · rw [List.drop_eq_getElem_cons hlt] at hIk
      have HT := Lib.hid (show (L.take (k + 1)).map (Value.int .u64) = (L.take k).map (Value.int .u64) ++ [.int .u64 L[k]] by rw [take_next hlt, List.map_append]; rfl)
      go_wp2_with (first
        | ((with_reducible refine (H.nextCons _ _ _ _ hIk).mono ?_); rintro e w1 ⟨rfl, hI1, hc1⟩)
        | ((with_reducible refine (H.at_ _ _ _ hI1).mono ?_); rintro e w2 ⟨rfl, hI2, hc2⟩; have hc12 := hc1.trans hc2; have hO := own_alloc (own_chg hown hc12 (fun g h1 h2 c => by omega)) (.cells #[.int .u64 L[k]] 140); have hzw := hc12.size)
        | (at_builtin; refine list_app 118 140 i0 _ 1 8 rfl (.tmp 6) (.tmp 9) rfl rfl Tryz.underlying118 hi hz0 hz1 hz2 rfl (by decide) (by decide) B (.slice za k zc) k ((L.take k).map (Value.int .u64)) rfl hO w2.heap.size rfl [.int .u64 L[k]] rfl (heap_alloc_new w2 _) (one1 _ _) (by omega) (by simp; omega) ?_; intro v' w3 ho hg)
        | fail)
      have hg' := ((Chg.refl (fun k => B ≤ k) w2).alloc (.cells #[.int .u64 L[k]] 140)).grown hg (fun q hq => (hO.lt q hq).1)
      have hI3 := H.keep _ _ _ _ hI2 hg'
      have hch3 := (hch.trans hc12.lo).trans (hg'.hi hB)
      rw [← HT.out] at ho
      clear hown hO hg hg' hch hc12 hc1 hc2 hI1 hI2 hIk hz hzw
      go_roundg (gk - 1)
      case rel => exact ⟨k + 1, some L[k], by omega, hI3, ho, hch3⟩
      case measure => omega
    · obtain rfl : k = L.length := by omega
      rw [List.drop_length] at hIk
      go_wp2_with (first
        | ((with_reducible refine (H.nextNil _ _ hIk).mono ?_); rintro e w1 ⟨rfl, hI1, hc1⟩)
        | ((with_reducible refine (H.err _ hI1).mono ?_); rintro e w2 ⟨rfl, hc2⟩; have hc12 := hc1.trans hc2)
        | fail)
      go_ret2
      refine ⟨_, rfl, ?_, hch.trans hc12.lo⟩
      rw [List.take_length] at hown
      exact own_chg hown hc12 (fun g h1 h2 c => by omega)
end Go.Proofs.YtkbkggamfkadnaaGreatDoor
