/-
  The varint package's Uvarint of any bytes.
-/
import Derived.Test.YtkbkggamfkadnaaGreatDoorUvarA
import Derived.Test.YtkbkggamfkadnaaGreatDoorUvarB
namespace Go.Proofs.YtkbkggamfkadnaaGreatDoor
set_option linter.unusedSimpArgs false
set_option linter.unusedVariables false
open Go.RowKit

/-- a number of at most 64 bits stands ahead -/
def uOk (l : List UInt8) : Bool := decide ((uvar (l.take 10)).2 ≠ 0) && !(decide ((uvar (l.take 10)).2 = 10) && decide (1 < (l.getD 9 0).toNat))
def UvRes (l : List UInt8) (w : World) (e : Ending) (w' : World) : Prop := ∃ x n : Int, e = .returned (.tuple #[.int .u64 x, .int .i64 n]) ∧ w = w' ∧ (uOk l = true → x = ((uvar (l.take 10)).1 : Nat) ∧ n = ((uvar (l.take 10)).2 : Nat)) ∧ (uOk l = false → n ≤ 0)
theorem uv_ok {l : List UInt8} {w : World} {X k : Nat} (hu : uvar (l.take 10) = (X, k + 1)) (h9 : k = 9 → (l.getD 9 0).toNat ≤ 1) (e : Ending) (w' : World) (h : e = .returned (.tuple #[.int .u64 (X : Nat), .int .i64 ((k + 1 : Nat) : Int)]) ∧ w = w') : UvRes l w e w' := by
  refine ⟨_, _, h.1, h.2, fun _ => by rw [hu]; exact ⟨rfl, rfl⟩, fun h0 => ?_⟩
  exfalso
  unfold uOk at h0
  rw [hu] at h0
  simp at h0
  have := h9 (by omega)
  simp only [List.getD_eq_getElem?_getD] at this
  omega
theorem uv_no {l : List UInt8} {w : World} (hu : uOk l = false) (e : Ending) (w' : World) (h : (∃ n : Int, e = .returned (.tuple #[.int .u64 0, .int .i64 n]) ∧ n ≤ 0) ∧ w = w') : UvRes l w e w' := by
  obtain ⟨⟨n, h1, h2⟩, h3⟩ := h
  exact ⟨_, _, h1, h3, (fun h => by rw [hu] at h; cases h), fun _ => h2⟩
set_option maxRecDepth 100000 in
theorem uv_none (v : Value) (w : World) (h : Bytes w v []) : Calls Tryz.prog 81 #[v] w fun e w' => (∃ n : Int, e = .returned (.tuple #[.int .u64 0, .int .i64 n]) ∧ n ≤ 0) ∧ w = w' := by
  obtain ⟨ao, cap, rfl, hcap, hmax⟩ := h.form
  rw [show ([] : List UInt8).length = 0 from rfl]
  go_enter Tryz.func81, Tryz.ntmps81
  go_wp2_with fail
  go_ret2
  exact ⟨⟨_, rfl, by decide⟩, rfl⟩

set_option maxRecDepth 100000 in
set_option maxHeartbeats 4000000 in
theorem uvarint_any (v : Value) (l : List UInt8) (w : World) (h : Bytes w v l) (hl : l.length ≤ 2147483647) :
    Calls Tryz.prog 81 #[v] w (UvRes l w) := by
  rcases l with _ | ⟨b0, l⟩
  · exact (uv_none v w h).mono (fun e w' hh => uv_no (by rfl) e w' hh)
  by_cases h0 : b0.toNat < 128
  · have hu : uvar ((b0 :: l).take 10) = (b0.toNat, 0 + 1) := by simp [uvar, h0]
    by_cases hm : (b0 :: l).length < 10
    · exact (uvS_0 v _ b0 l w h rfl hm hl h0).mono (fun e w' hh => uv_ok hu (fun h => absurd h (by decide)) e w' hh)
    · exact (uvL_0 v _ b0 l w h rfl (by omega) hl h0).mono (fun e w' hh => uv_ok hu (fun h => absurd h (by decide)) e w' hh)
  rcases l with _ | ⟨b1, l⟩
  · exact (uvF_0 v _ b0 w h rfl hl h0).mono (fun e w' hh => uv_no (by simp [uOk, uvar, h0]) e w' hh)
  by_cases h1 : b1.toNat < 128
  · have hu : uvar ((b0 :: b1 :: l).take 10) = ((b0.toNat % 128 + 128 * b1.toNat), 1 + 1) := by simp [uvar, h0, h1]
    by_cases hm : (b0 :: b1 :: l).length < 10
    · exact (uvS_1 v _ b0 b1 l w h rfl hm hl h0 h1).mono (fun e w' hh => uv_ok hu (fun h => absurd h (by decide)) e w' hh)
    · exact (uvL_1 v _ b0 b1 l w h rfl (by omega) hl h0 h1).mono (fun e w' hh => uv_ok hu (fun h => absurd h (by decide)) e w' hh)
  rcases l with _ | ⟨b2, l⟩
  · exact (uvF_1 v _ b0 b1 w h rfl hl h0 h1).mono (fun e w' hh => uv_no (by simp [uOk, uvar, h0, h1]) e w' hh)
  by_cases h2 : b2.toNat < 128
  · have hu : uvar ((b0 :: b1 :: b2 :: l).take 10) = ((b0.toNat % 128 + 128 * (b1.toNat % 128 + 128 * b2.toNat)), 2 + 1) := by simp [uvar, h0, h1, h2]
    by_cases hm : (b0 :: b1 :: b2 :: l).length < 10
    · exact (uvS_2 v _ b0 b1 b2 l w h rfl hm hl h0 h1 h2).mono (fun e w' hh => uv_ok hu (fun h => absurd h (by decide)) e w' hh)
    · exact (uvL_2 v _ b0 b1 b2 l w h rfl (by omega) hl h0 h1 h2).mono (fun e w' hh => uv_ok hu (fun h => absurd h (by decide)) e w' hh)
  rcases l with _ | ⟨b3, l⟩
  · exact (uvF_2 v _ b0 b1 b2 w h rfl hl h0 h1 h2).mono (fun e w' hh => uv_no (by simp [uOk, uvar, h0, h1, h2]) e w' hh)
  by_cases h3 : b3.toNat < 128
  · have hu : uvar ((b0 :: b1 :: b2 :: b3 :: l).take 10) = ((b0.toNat % 128 + 128 * (b1.toNat % 128 + 128 * (b2.toNat % 128 + 128 * b3.toNat))), 3 + 1) := by simp [uvar, h0, h1, h2, h3]
    by_cases hm : (b0 :: b1 :: b2 :: b3 :: l).length < 10
    · exact (uvS_3 v _ b0 b1 b2 b3 l w h rfl hm hl h0 h1 h2 h3).mono (fun e w' hh => uv_ok hu (fun h => absurd h (by decide)) e w' hh)
    · exact (uvL_3 v _ b0 b1 b2 b3 l w h rfl (by omega) hl h0 h1 h2 h3).mono (fun e w' hh => uv_ok hu (fun h => absurd h (by decide)) e w' hh)
  rcases l with _ | ⟨b4, l⟩
  · exact (uvF_3 v _ b0 b1 b2 b3 w h rfl hl h0 h1 h2 h3).mono (fun e w' hh => uv_no (by simp [uOk, uvar, h0, h1, h2, h3]) e w' hh)
  by_cases h4 : b4.toNat < 128
  · have hu : uvar ((b0 :: b1 :: b2 :: b3 :: b4 :: l).take 10) = ((b0.toNat % 128 + 128 * (b1.toNat % 128 + 128 * (b2.toNat % 128 + 128 * (b3.toNat % 128 + 128 * b4.toNat)))), 4 + 1) := by simp [uvar, h0, h1, h2, h3, h4]
    by_cases hm : (b0 :: b1 :: b2 :: b3 :: b4 :: l).length < 10
    · exact (uvS_4 v _ b0 b1 b2 b3 b4 l w h rfl hm hl h0 h1 h2 h3 h4).mono (fun e w' hh => uv_ok hu (fun h => absurd h (by decide)) e w' hh)
    · exact (uvL_4 v _ b0 b1 b2 b3 b4 l w h rfl (by omega) hl h0 h1 h2 h3 h4).mono (fun e w' hh => uv_ok hu (fun h => absurd h (by decide)) e w' hh)
  rcases l with _ | ⟨b5, l⟩
  · exact (uvF_4 v _ b0 b1 b2 b3 b4 w h rfl hl h0 h1 h2 h3 h4).mono (fun e w' hh => uv_no (by simp [uOk, uvar, h0, h1, h2, h3, h4]) e w' hh)
  by_cases h5 : b5.toNat < 128
  · have hu : uvar ((b0 :: b1 :: b2 :: b3 :: b4 :: b5 :: l).take 10) = ((b0.toNat % 128 + 128 * (b1.toNat % 128 + 128 * (b2.toNat % 128 + 128 * (b3.toNat % 128 + 128 * (b4.toNat % 128 + 128 * b5.toNat))))), 5 + 1) := by simp [uvar, h0, h1, h2, h3, h4, h5]
    by_cases hm : (b0 :: b1 :: b2 :: b3 :: b4 :: b5 :: l).length < 10
    · exact (uvS_5 v _ b0 b1 b2 b3 b4 b5 l w h rfl hm hl h0 h1 h2 h3 h4 h5).mono (fun e w' hh => uv_ok hu (fun h => absurd h (by decide)) e w' hh)
    · exact (uvL_5 v _ b0 b1 b2 b3 b4 b5 l w h rfl (by omega) hl h0 h1 h2 h3 h4 h5).mono (fun e w' hh => uv_ok hu (fun h => absurd h (by decide)) e w' hh)
  rcases l with _ | ⟨b6, l⟩
  · exact (uvF_5 v _ b0 b1 b2 b3 b4 b5 w h rfl hl h0 h1 h2 h3 h4 h5).mono (fun e w' hh => uv_no (by simp [uOk, uvar, h0, h1, h2, h3, h4, h5]) e w' hh)
  by_cases h6 : b6.toNat < 128
  · have hu : uvar ((b0 :: b1 :: b2 :: b3 :: b4 :: b5 :: b6 :: l).take 10) = ((b0.toNat % 128 + 128 * (b1.toNat % 128 + 128 * (b2.toNat % 128 + 128 * (b3.toNat % 128 + 128 * (b4.toNat % 128 + 128 * (b5.toNat % 128 + 128 * b6.toNat)))))), 6 + 1) := by simp [uvar, h0, h1, h2, h3, h4, h5, h6]
    by_cases hm : (b0 :: b1 :: b2 :: b3 :: b4 :: b5 :: b6 :: l).length < 10
    · exact (uvS_6 v _ b0 b1 b2 b3 b4 b5 b6 l w h rfl hm hl h0 h1 h2 h3 h4 h5 h6).mono (fun e w' hh => uv_ok hu (fun h => absurd h (by decide)) e w' hh)
    · exact (uvL_6 v _ b0 b1 b2 b3 b4 b5 b6 l w h rfl (by omega) hl h0 h1 h2 h3 h4 h5 h6).mono (fun e w' hh => uv_ok hu (fun h => absurd h (by decide)) e w' hh)
  rcases l with _ | ⟨b7, l⟩
  · exact (uvF_6 v _ b0 b1 b2 b3 b4 b5 b6 w h rfl hl h0 h1 h2 h3 h4 h5 h6).mono (fun e w' hh => uv_no (by simp [uOk, uvar, h0, h1, h2, h3, h4, h5, h6]) e w' hh)
  by_cases h7 : b7.toNat < 128
  · have hu : uvar ((b0 :: b1 :: b2 :: b3 :: b4 :: b5 :: b6 :: b7 :: l).take 10) = ((b0.toNat % 128 + 128 * (b1.toNat % 128 + 128 * (b2.toNat % 128 + 128 * (b3.toNat % 128 + 128 * (b4.toNat % 128 + 128 * (b5.toNat % 128 + 128 * (b6.toNat % 128 + 128 * b7.toNat))))))), 7 + 1) := by simp [uvar, h0, h1, h2, h3, h4, h5, h6, h7]
    by_cases hm : (b0 :: b1 :: b2 :: b3 :: b4 :: b5 :: b6 :: b7 :: l).length < 10
    · exact (uvS_7 v _ b0 b1 b2 b3 b4 b5 b6 b7 l w h rfl hm hl h0 h1 h2 h3 h4 h5 h6 h7).mono (fun e w' hh => uv_ok hu (fun h => absurd h (by decide)) e w' hh)
    · exact (uvL_7 v _ b0 b1 b2 b3 b4 b5 b6 b7 l w h rfl (by omega) hl h0 h1 h2 h3 h4 h5 h6 h7).mono (fun e w' hh => uv_ok hu (fun h => absurd h (by decide)) e w' hh)
  rcases l with _ | ⟨b8, l⟩
  · exact (uvF_7 v _ b0 b1 b2 b3 b4 b5 b6 b7 w h rfl hl h0 h1 h2 h3 h4 h5 h6 h7).mono (fun e w' hh => uv_no (by simp [uOk, uvar, h0, h1, h2, h3, h4, h5, h6, h7]) e w' hh)
  by_cases h8 : b8.toNat < 128
  · have hu : uvar ((b0 :: b1 :: b2 :: b3 :: b4 :: b5 :: b6 :: b7 :: b8 :: l).take 10) = ((b0.toNat % 128 + 128 * (b1.toNat % 128 + 128 * (b2.toNat % 128 + 128 * (b3.toNat % 128 + 128 * (b4.toNat % 128 + 128 * (b5.toNat % 128 + 128 * (b6.toNat % 128 + 128 * (b7.toNat % 128 + 128 * b8.toNat)))))))), 8 + 1) := by simp [uvar, h0, h1, h2, h3, h4, h5, h6, h7, h8]
    by_cases hm : (b0 :: b1 :: b2 :: b3 :: b4 :: b5 :: b6 :: b7 :: b8 :: l).length < 10
    · exact (uvS_8 v _ b0 b1 b2 b3 b4 b5 b6 b7 b8 l w h rfl hm hl h0 h1 h2 h3 h4 h5 h6 h7 h8).mono (fun e w' hh => uv_ok hu (fun h => absurd h (by decide)) e w' hh)
    · exact (uvL_8 v _ b0 b1 b2 b3 b4 b5 b6 b7 b8 l w h rfl (by omega) hl h0 h1 h2 h3 h4 h5 h6 h7 h8).mono (fun e w' hh => uv_ok hu (fun h => absurd h (by decide)) e w' hh)
  rcases l with _ | ⟨b9, l⟩
  · exact (uvF_8 v _ b0 b1 b2 b3 b4 b5 b6 b7 b8 w h rfl hl h0 h1 h2 h3 h4 h5 h6 h7 h8).mono (fun e w' hh => uv_no (by simp [uOk, uvar, h0, h1, h2, h3, h4, h5, h6, h7, h8]) e w' hh)
  by_cases h9 : b9.toNat < 128
  · have hu : uvar ((b0 :: b1 :: b2 :: b3 :: b4 :: b5 :: b6 :: b7 :: b8 :: b9 :: l).take 10) = ((b0.toNat % 128 + 128 * (b1.toNat % 128 + 128 * (b2.toNat % 128 + 128 * (b3.toNat % 128 + 128 * (b4.toNat % 128 + 128 * (b5.toNat % 128 + 128 * (b6.toNat % 128 + 128 * (b7.toNat % 128 + 128 * (b8.toNat % 128 + 128 * b9.toNat))))))))), 9 + 1) := by simp [uvar, h0, h1, h2, h3, h4, h5, h6, h7, h8, h9]
    have hm : 10 ≤ (b0 :: b1 :: b2 :: b3 :: b4 :: b5 :: b6 :: b7 :: b8 :: b9 :: l).length := by simp
    by_cases hg : b9.toNat ≤ 1
    · exact (uvL_9 v _ b0 b1 b2 b3 b4 b5 b6 b7 b8 b9 l w h rfl hm hl h0 h1 h2 h3 h4 h5 h6 h7 h8 h9 hg).mono (fun e w' hh => uv_ok hu (fun _ => by simpa using hg) e w' hh)
    · exact (uvO_9 v _ b0 b1 b2 b3 b4 b5 b6 b7 b8 b9 l w h rfl hm hl h0 h1 h2 h3 h4 h5 h6 h7 h8 h9 (by omega)).mono (fun e w' hh => uv_no (by unfold uOk; rw [hu]; simp; omega) e w' hh)
  rcases l with _ | ⟨b10, l⟩
  · exact (uvZ_9 v _ b0 b1 b2 b3 b4 b5 b6 b7 b8 b9 w h rfl hl h0 h1 h2 h3 h4 h5 h6 h7 h8 h9).mono (fun e w' hh => uv_no (by simp [uOk, uvar, h0, h1, h2, h3, h4, h5, h6, h7, h8, h9]) e w' hh)
  · exact (uvX_9 v _ b0 b1 b2 b3 b4 b5 b6 b7 b8 b9 (b10 :: l) w h rfl (by simp only [List.length_cons]; omega) hl h0 h1 h2 h3 h4 h5 h6 h7 h8 h9).mono (fun e w' hh => uv_no (by simp [uOk, uvar, h0, h1, h2, h3, h4, h5, h6, h7, h8, h9]) e w' hh)
end Go.Proofs.YtkbkggamfkadnaaGreatDoor
