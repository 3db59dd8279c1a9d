/-
  Each hint on counter resets has its header, and what is no hint has the unknown one.
  Conditions: none beyond the kind of the argument (a byte).
-/
import Derived.Test.YtdinjpemofkdaaaPFnHintHeaderx1
namespace Go.Proofs.Ytdinjpemofkdaaa.Pure
open Go.RowKit Go.Proofs.Ytdinjpemofkdaaa.PFnHintHeader Go.Proofs.YtdinjpemofkdaaaW.PrintWords Go.Proofs.YtdinjpemofkdaaaW.PrintLast

theorem FnHintHeader : laws_FnHintHeader.Pure := by
  intro a h
  have h0 : 0 ≤ a ∧ a < 256 := by simp [Lit.wf, IntKind.min, IntKind.max, IntKind.signed, IntKind.bits] at h; omega
  have hw : wrap64 a = a := by unfold wrap64; omega
  unfold laws_FnHintHeader.f impl_HintHeader.f chunkenc_CounterResetHintToHeader.f impl_reset.f
  rw [hw]
  by_cases c1 : a = 1
  · subst c1; rfl
  by_cases c2 : a = 2
  · subst c2; rfl
  by_cases c3 : a = 3
  · subst c3; rfl
  by_cases c0 : a = 0
  · subst c0; rfl
  have : a > 3 := by omega
  simp [c1, c2, c3, this]

end Go.Proofs.Ytdinjpemofkdaaa.Pure
