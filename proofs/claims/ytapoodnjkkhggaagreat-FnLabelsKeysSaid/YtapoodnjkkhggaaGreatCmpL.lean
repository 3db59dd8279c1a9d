/-
  labels.Compare, labels.Equal.
-/
import Derived.Test.YtapoodnjkkhggaaGreatRng
import Derived.Test.YtapoodnjkkhggaaGreatSpR
namespace Go.Proofs.YtapoodnjkkhggaaGreat
set_option linter.unusedSimpArgs false
set_option linter.unusedVariables false
open Go.RowKit

set_option maxRecDepth 100000 in
theorem equal_any (l m : List Lb) (w : World) (hf : FitL l) (hg : FitL m) :
    Calls Tryz.prog 85 #[lbsV l, lbsV m] w fun e w' => e = .returned (.bool (decide (l = m))) ∧ Below w.heap.size w w' := by
  have HE := Lib.hid (show ((⟨(encL l).toArray⟩ : ByteArray).toList == (⟨(encL m).toArray⟩ : ByteArray).toList) = decide (l = m) by
    rw [toList_beq]
    by_cases h : l = m
    · subst h; simp
    · rw [decide_eq_false h, decide_eq_false]
      intro c
      have := congrArg ByteArray.toList c
      rw [ByteArray.toList_mk, ByteArray.toList_mk] at this
      exact h (encL_inj hf hg this))
  have hb : Below w.heap.size w ((w.alloc (.cells #[.string ⟨(encL l).toArray⟩] LST)).alloc (.cells #[.string ⟨(encL m).toArray⟩] LST)) := (below_new w _).alloc (by simp) _
  unfold lbsV
  generalize (⟨(encL l).toArray⟩ : ByteArray) = d at *
  generalize (⟨(encL m).toArray⟩ : ByteArray) = d' at *
  go_enter Tryz.func85, Tryz.ntmps85
  go_wp2_with fail
  go_ret
  exact ⟨eqb HE.out, hb⟩
/-- where the entries from k on begin -/
def posE (es : List ByteArray) (k : Nat) : Nat := (encE (es.take k)).length
theorem posE_at (es : List ByteArray) (k : Nat) : From ⟨(encE es).toArray⟩ (posE es k) (encE (es.drop k)) := by
  have e : encE es = encE (es.take k) ++ encE (es.drop k) := by rw [← encE_append, List.take_append_drop]
  have h1 : From ⟨(encE es).toArray⟩ 0 (encE (es.take k) ++ encE (es.drop k)) := by rw [← e]; exact From.start _
  have := h1.skip
  rw [Nat.zero_add] at this
  exact this
theorem posE_next {es : List ByteArray} {k : Nat} (h : k < es.length) : posE es (k + 1) = posE es k + szN es[k].size + es[k].size := by
  unfold posE
  rw [take_next h, encE_append, List.length_append, show encE [es[k]] = strE es[k] by simp [encE], strE_length]
  omega
/-- the first byte that differs lies in the entry k: so the entries there differ, and all ahead are the same -/
theorem differ {a b : List ByteArray} (ha : FitE a) (hb : FitE b) {d k : Nat} (hda : d < (encE a).length) (hdb : d < (encE b).length) (heq : ∀ j (hj : j < d), (encE a)[j]'(by omega) = (encE b)[j]'(by omega)) (hne : (encE a)[d] ≠ (encE b)[d])
    (hk : k < a.length) (hp : posE a k ≤ d) (hq : d < posE a (k + 1)) : ∃ t c, b = a.take k ++ t :: c ∧ t ≠ a[k] := by
  have htake : (encE a).take d = (encE b).take d := by
    apply List.ext_getElem
    · simp; omega
    · intro i h1 h2
      simp at h1
      rw [List.getElem_take, List.getElem_take]
      exact heq i (by omega)
  have hea : encE a = encE (a.take k) ++ encE (a.drop k) := by rw [← encE_append, List.take_append_drop]
  have htk : (encE a).take (posE a k) = encE (a.take k) := by rw [hea]; exact List.take_left' rfl
  have htb : (encE b).take (posE a k) = encE (a.take k) := by
    rw [← htk]
    have : ((encE a).take d).take (posE a k) = ((encE b).take d).take (posE a k) := by rw [htake]
    rw [List.take_take, List.take_take, Nat.min_eq_left hp] at this
    exact this.symm
  have hfk : FitE (a.take k) := fun x hx => ha x (List.mem_of_mem_take hx)
  obtain ⟨c, hc, hx⟩ := pre_inj (x := (encE b).drop (posE a k)) hfk hb (by rw [← htb, List.take_append_drop])
  have hlen : posE a k < (encE b).length := by omega
  cases c with
  | nil =>
    rw [List.append_nil] at hc
    have : (encE b).length = posE a k := by rw [hc]; rfl
    omega
  | cons t c =>
    refine ⟨t, c, hc, fun e => ?_⟩
    subst e
    have e1 : encE b = encE (a.take (k + 1)) ++ encE c := by
      rw [take_next hk, encE_append, List.append_assoc]
      rw [hc, encE_append, encE_cons]
      simp [encE]
    have e2 : encE a = encE (a.take (k + 1)) ++ encE (a.drop (k + 1)) := by rw [← encE_append, List.take_append_drop]
    apply hne
    have g1 : (encE a)[d]? = (encE (a.take (k + 1)))[d]? := by rw [e2]; exact List.getElem?_append_left hq
    have g2 : (encE b)[d]? = (encE (a.take (k + 1)))[d]? := by rw [e1]; exact List.getElem?_append_left hq
    rw [← g2, List.getElem?_eq_getElem hda, List.getElem?_eq_getElem hdb] at g1
    exact Option.some.inj g1
/-- a beginning -/
theorem begins {a b : List ByteArray} (ha : FitE a) (hb : FitE b) (hle : (encE a).length ≤ (encE b).length) (heq : ∀ j (hj : j < (encE a).length), (encE a)[j] = (encE b)[j]'(by omega)) : ∃ c, b = a ++ c := by
  have : encE a ++ (encE b).drop (encE a).length = encE b := by
    have e : encE a = (encE b).take (encE a).length := by
      apply List.ext_getElem
      · simp; omega
      · intro i h1 h2
        rw [List.getElem_take]
        exact heq i h1
    conv => lhs; lhs; rw [e]
    exact List.take_append_drop _ _
  obtain ⟨c, hc, _⟩ := pre_inj ha hb this
  exact ⟨c, hc⟩
end Go.Proofs.YtapoodnjkkhggaaGreat
