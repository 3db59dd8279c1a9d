/-
  Encodings and kinds of values have their names; those that are supported are valid; a kind of value has the encoding for it.
  Conditions: none beyond the kind of the argument (a byte).
-/
import Derived.Test.YtdinjpemofkdaaaPFnKindsx1
namespace Go.Proofs.Ytdinjpemofkdaaa.Pure
open Go.RowKit Go.Proofs.Ytdinjpemofkdaaa.PFnKinds Go.Proofs.YtdinjpemofkdaaaW.PrintWords Go.Proofs.YtdinjpemofkdaaaW.PrintLast

theorem FnKinds : laws_FnKinds.Pure := by
  intro a h
  have h0 : 0 ≤ a ∧ a < 256 := by simp [Lit.wf, IntKind.min, IntKind.max, IntKind.signed, IntKind.bits] at h; omega
  have hw : wrap64 a = a := by unfold wrap64; omega
  unfold laws_FnKinds.f impl_EncodingText.f spec_EncodingText.f impl_ValueText.f spec_ValueText.f impl_EncodingValid.f impl_ValueEncoding.f chunkenc_Encoding_String.f chunkenc_ValueType_String.f chunkenc_IsValidEncoding.f chunkenc_ValueType_ChunkEncoding.f
  rw [hw]
  have e1 : (⟨#[88, 79, 82]⟩ : ByteArray).toList = [88, 79, 82] := by simp
  by_cases c1 : a = 1
  · subst c1; simp [rdOf, hw]
  by_cases c2 : a = 2
  · subst c2; simp [rdOf, hw]
  by_cases c3 : a = 3
  · subst c3; simp [rdOf, hw]
  by_cases c0 : a = 0
  · subst c0; simp [rdOf, hw]
  have h3 : a > 3 := by omega
  have hm : a % 256 = a := by omega
  have n1 : ¬ a < 0 := by omega
  have n2 : ¬ a > 255 := by omega
  have n3 : ¬ a ≤ 3 := by omega
  by_cases h9 : a ≤ 255 <;> simp [c0, c1, c2, c3, h3, hm, n1, n2, n3, h9, h0.1]

end Go.Proofs.Ytdinjpemofkdaaa.Pure
