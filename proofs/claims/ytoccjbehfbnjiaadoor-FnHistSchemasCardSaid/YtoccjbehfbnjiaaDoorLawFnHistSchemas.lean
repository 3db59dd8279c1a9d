/-
  FnHistSchemas returns true for every schema and every two lists of bounds, whatever memory holds; the listed variables hold the errors that the program's text lays.
-/
import Derived.Test.YtoccjbehfbnjiaaDoorRows
import Derived.Test.YtoccjbehfbnjiaaDoorCards
import Derived.Test.YtoccjbehfbnjiaaDoorTie
import Derived.Test.YtoccjbehfbnjiaaDoorWSchemas
import Derived.Test.YtoccjbehfbnjiaaDoorErrs
import Derived.WalkKit
import Derived.ProofKit
import Derived.OpenShut
import Derived.ShutString
import Derived.ChangeOld
import Derived.Below
import Derived.SizedLaws
import Derived.LaidMore
import Derived.Lay
import Derived.SevenTiedAt
import Derived.Stop.Joined
import Derived.Carry
namespace Go.Proofs.YtoccjbehfbnjiaaDoor.fnHistSchemas
open Go.ChangeShapes Go.WideShapes Go.ChangeAt Go.RowKit
set_option linter.unusedVariables false
theorem own : ownKnob Tryd.prog.godebug = none := by kernel_rfl
theorem laidOut : laidOutB Tryd.prog = true := by kernel_rfl
set_option maxRecDepth 100000 in
theorem lifted (os : Os) (started : os.Started) (H : Type) (enc : TypeId × Value → H) :
    ReturnsInHanded {} Tryd.checked os 4 .any (fun w args => (Rows.fnHistSchemasSpec.pre enc Tryd.prog Tryd.f4 Rows.fnHistSchemasRow.domain false w args ∧ laidMetH Tryd.prog Rows.fnHistSchemasRow.laid w) ∧ sizedMet enc Tryd.prog Tryd.f4 (OpenSpec.ofChange Rows.fnHistSchemasSpec) false w args)
      (Rows.fnHistSchemasSpec.post enc Tryd.prog Tryd.f4 false true false false) := by
  refine returnsInHanded_of_change_and (C := Tryd.checked) (X := fun w _ => laidMetH Tryd.prog Rows.fnHistSchemasRow.laid w) (fun _ _ _ hh h => h.of_heap hh) own started (by kernel_rfl) Tryd.func4
    (ChangeSpec.witness_shaped (enc := enc) (C := Tryd.checked) (os := os) (X := fun w _ => laidMetH Tryd.prog Rows.fnHistSchemasRow.laid w) false (World.laidAll Tryd.prog os Rows.fnHistSchemasRow.laid) #[.int .i32 0, .slice none 0 0, .slice none 0 0] 8 (World.laidAll_os _ _ _)
      (World.shaped_of_ZipB (by kernel_rfl) (by kernel_rfl)) (by kernel_rfl) (by kernel_rfl) (by kernel_rfl)
      (by rw [MakeChecks.laidMetH_plain _ _ _ (by kernel_rfl)]; exact laidMet_laidAll _ (by kernel_rfl) (by kernel_rfl))) ?_
  intro W base args ds gs before hval0 hW hcnd _ hL _
  have hval : ∀ (j : Nat) t v, Tryd.f4.params[j]? = some t → args[j]? = some v → Value.okWide Tryd.prog W .any base t v := hval0
  have hW' := hW
  obtain ⟨p, q, hA0, hV, rfl, hfz, hnd⟩ := hW
  have hA : DataW.TrodAll enc Tryd.prog W 0 (fun _ => true) true Tryd.f4.params.toList args.toList ds p := hA0
  rw [Tryd.params4] at hA hval
  have hE : Errs W := errs_of hL
  obtain ⟨v0, vs0, d0, ds0, p0, q0, hargs, rfl, rfl, h0, r0⟩ := trodAll_cons hA
  obtain ⟨v1, vs1, d1, ds1, p1, q1, rfl, rfl, rfl, h1, r1⟩ := trodAll_cons r0
  obtain ⟨v2, vs2, d2, ds2, p2, q2, rfl, rfl, rfl, h2, r2⟩ := trodAll_cons r1
  obtain ⟨rfl, rfl, rfl⟩ := trodAll_nil r2
  obtain rfl : args = #[v0, v1, v2] := by clear hL hE hval hW' hA0 hval0 hcnd; cases args; simp_all
  obtain ⟨rfl, rfl⟩ := trodVars_none hV
  obtain ⟨a0, rfl, rfl, rfl, w0⟩ := open_int Tryd.underlying21 (hval 0 21 v0 rfl rfl) h0
  have k1 := h1
  have lt1 : ∀ x ∈ p1, x.block < W.heap.size := by obtain ⟨m, hm⟩ := k1; exact DataW.trod_lt m _ _ _ hm
  obtain ⟨b1, hI1⟩ : ∃ b : List Nat, Ints W W.heap.size .u64 v1 (b.map Int.ofNat) ∧ ∀ x ∈ b, x ≤ 18446744073709551615 := by
    obtain ⟨xa, xl, xc, rfl⟩ := okWide_slice Tryd.underlying25 (hval 1 25 v1 rfl rfl)
    obtain ⟨fuel, hf⟩ := h1
    obtain ⟨x, l, hcs, hI, hwf⟩ := open_Ints Tryd.underlying25 Tryd.underlying22 (by kernel_rfl) hf
    simp [Value.cells] at hcs
    subst hcs
    obtain ⟨b, rfl, hb⟩ := nats_of l hwf
    exact ⟨b, hI, hb⟩
  have k2 := h2
  have lt2 : ∀ x ∈ p2, x.block < W.heap.size := by obtain ⟨m, hm⟩ := k2; exact DataW.trod_lt m _ _ _ hm
  obtain ⟨b2, hI2⟩ : ∃ b : List Nat, Ints W W.heap.size .u64 v2 (b.map Int.ofNat) ∧ ∀ x ∈ b, x ≤ 18446744073709551615 := by
    obtain ⟨xa, xl, xc, rfl⟩ := okWide_slice Tryd.underlying25 (hval 2 25 v2 rfl rfl)
    obtain ⟨fuel, hf⟩ := h2
    obtain ⟨x, l, hcs, hI, hwf⟩ := open_Ints Tryd.underlying25 Tryd.underlying22 (by kernel_rfl) hf
    simp [Value.cells] at hcs
    subst hcs
    obtain ⟨b, rfl, hb⟩ := nats_of l hwf
    exact ⟨b, hI, hb⟩
  clear hA0 hval0
  refine (schemas_walk a0 _ b1 _ b2 W hI1.1 hI2.1 hE).mono fun e W' ⟨he, bel⟩ => ?_
  subst he
  exact ⟨_, rfl, _, _, _, [], _, [], hW', trodAll_mk1 (shut_bool Tryd.underlying4 _), (trodAll_cons_mk (shut_int Tryd.underlying21 w0) (trodAll_cons_mk (Below.trod laidOut (by kernel_rfl) (of_decide_eq_true (by kernel_rfl)) k1 bel lt1) (trodAll_cons_mk (Below.trod laidOut (by kernel_rfl) (of_decide_eq_true (by kernel_rfl)) k2 bel lt2) trodAll_mk0))), rfl, bel.frame _, fun h => by cases h⟩
theorem over : Rows.fnHistSchemasRow.holds Tryd.pinned (OpenSpec.ofChange Rows.fnHistSchemasSpec) :=
  OpenClaim.holds_of_wide 4 Tryd.f4 rfl rfl rfl rfl rfl rfl rfl ⟨rfl, rfl, rfl, rfl, rfl⟩ rfl rfl rfl rfl rfl (by kernel_rfl) Tryd.func4 (by kernel_rfl)
    (of_decide_eq_true (by kernel_rfl)) (by unfold Func.isWrapper; first | (rw [if_pos (by decide +kernel)]; kernel_rfl) | (rw [if_neg (by decide +kernel)]; exact ⟨rfl, rfl⟩))
    (fun os started H enc _ => lifted os started H enc)
theorem card : Rows.FnHistSchemasCardSaid :=
  Claim7.holds_tied_plain_at .later [] [.sentinel, .sentinel, .sentinel, .sentinel, .sentinel, .sentinel, .sentinel, .sentinel] true (true, "3c8d839f31fe6241bf03e2dd26a14e111ffd36f5a88d07e1ca4fc54023da031b") false over (fun _ h => by cases h) (by kernel_rfl) (fun _ h => by cases h) fnHistSchemas_row_tie rfl ⟨rfl, rfl⟩ (by kernel_rfl) rfl
    (fun f fn hf hfn => by
      obtain rfl : f = 4 := Option.some.inj ((show Tryd.prog.funcNamed "pub-quillon/laws.FnHistSchemas" = some 4 by kernel_rfl).symm.trans hf) |>.symm
      obtain rfl : fn = Tryd.f4 := (Option.some.inj (Tryd.func4.symm.trans hfn)).symm
      exact ⟨by kernel_rfl, fun j t ht => by
        rw [Tryd.params4] at ht
        have hm : t ∈ [21, 25, 25] := by simpa using Array.mem_of_getElem? ht
        have hall : ([21, 25, 25].all fun u => !Tryd.prog.wantsStandIn u) = true := by kernel_rfl
        exact (show Tryd.prog.wantsStandIn t = false by simpa using List.all_eq_true.1 hall t hm)⟩)
    (by kernel_rfl)
end Go.Proofs.YtoccjbehfbnjiaaDoor.fnHistSchemas
namespace Go.Proofs.YtoccjbehfbnjiaaDoor
theorem fnHistSchemas_holds : Rows.FnHistSchemasCardSaid := fnHistSchemas.card
#print axioms fnHistSchemas_holds
end Go.Proofs.YtoccjbehfbnjiaaDoor
