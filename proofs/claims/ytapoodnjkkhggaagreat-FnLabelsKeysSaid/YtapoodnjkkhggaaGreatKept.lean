/-
  spec.Kept: the labels that are among some names, or those that are not.
-/
import Derived.Test.YtapoodnjkkhggaaGreatNm
import Derived.Test.YtapoodnjkkhggaaGreatNew
import Derived.Test.YtapoodnjkkhggaaGreatRng
namespace Go.Proofs.YtapoodnjkkhggaaGreat
set_option linter.unusedSimpArgs false
set_option linter.unusedVariables false
open Go.RowKit

def kept (names : List ByteArray) (b : Bool) (l : List Lb) : List Lb := l.filter fun x => amg names x.1 == b
theorem kept_le (names : List ByteArray) (b : Bool) (l : List Lb) : (kept names b l).length ≤ l.length := List.length_filter_le _ _
set_option maxRecDepth 100000 in
set_option maxHeartbeats 4000000 in
theorem kept_any (v : Value) (l : List Lb) (u : Value) (names : List ByteArray) (b : Bool) (w : World) (h : Ls w v l) (g : Strs w u names) (hl : l.length ≤ 1000000) (hn : names.length ≤ 1000000) :
    Calls Tryz.prog 23 #[v, u, .bool b] w fun e w' => ∃ x, e = .returned x ∧ w'.ownsRow w.heap.size ILT 2 x (kept names b l).length (lcells (kept names b l)) ∧ Below w.heap.size w w' := by
  obtain ⟨ao, cap, rfl, h1, h2⟩ := h.form
  obtain ⟨bo, bcap, rfl, g1, g2⟩ := g.form
  obtain ⟨i0, hi, hz0, hz1, hz2⟩ := info_parts infoLb2
  go_enter Tryz.func23, Tryz.ntmps23
  go_wp2_with fail
  go_loopw [7, 8] (fun z i wr => ∃ k : Nat, k ≤ l.length ∧ i = .int .i64 k ∧ wr.ownsRow w.heap.size ILT 2 z (kept names b (l.take k)).length (lcells (kept names b (l.take k))) ∧ Below w.heap.size w wr) (fun _ i _ => l.length - (intOf i).toNat)
  case atStart => exact ⟨0, Nat.zero_le _, rfl, World.ownsRow_nil _ _ _ _, Below.refl _ _⟩
  case round =>
    obtain ⟨k, hk, rfl, ho, hbel⟩ := hrel
    obtain ⟨za, zc, rfl⟩ := own_form ho
    by_cases hlt : k < l.length
    · obtain ⟨p, off, rfl, hb, hc⟩ := h.at_ (by omega)
      obtain ⟨c0, c1⟩ := hc k hlt
      have c0' := (hbel.cell (p := ⟨p, off + k * 2, none⟩) hb).trans c0
      have c1' := (hbel.cell (p := ⟨p, off + k * 2 + 1, none⟩) hb).trans c1
      have HN := Lib.hid (show kept names b (l.take (k + 1)) = kept names b (l.take k) ++ kept names b [l[k]] by unfold kept; rw [take_next hlt, List.filter_append])
      have HL := Lib.hid (show (kept names b (l.take k)).length < 2147483648 from by have := kept_le names b (l.take k); rw [List.length_take] at this; omega)
      have hAm := among_any _ names l[k].1 wr (g.up hbel) hn
      have HQ := Lib.hid (show kept names b [l[k]] = if amg names l[k].1 == b then [l[k]] else [] by simp [kept, List.filter_cons])
      clear c0 c1 hc
      generalize l[k] = x at *
      obtain ⟨x1, x2⟩ := x
      simp only at c0' c1' hAm HQ
      generalize kept names b (l.take k) = KK at *
      have i0' : (0 : Int) ≤ (k : Int) := by omega
      have i1 : (k : Int) < (l.length : Int) := by omega
      generalize hA : amg names x1 = A at *
      by_cases e : A = b
      · subst e
        have HM := Lib.hid (show kept names A (l.take (k + 1)) = KK ++ [(x1, x2)] by rw [HN.out, HQ.out]; simp)
        have hne : KK.length < 2147483648 := HL.out
        have hoX := own_alloc ho (.cells #[.string x1, .string x2] ILT)
        have hbX := hbel.alloc hbel.size (.cells #[.string x1, .string x2] ILT)
        have hX : (wr.alloc (.cells #[.string x1, .string x2] ILT)).heap[wr.heap.size]? = some (.cells [Value.string x1, .string x2].toArray ILT (0, 0)) := heap_alloc_new _ _
        have hsz := hbX.size
        generalize hlen : KK.length = n at *
        go_wp2_with fail
        (with_reducible refine hAm.mono ?_)
        rintro e w1 ⟨rfl, rfl⟩
        go_wp2_with (first
          | (at_builtin; refine list_app 23 ILT i0 _ 2 32 rfl (.tmp 24) (.tmp 29) rfl rfl Tryz.underlying23 hi hz0 hz1 hz2 rfl (by decide) (by decide) w.heap.size (.slice za n zc) n (lcells KK) rfl hoX wr.heap.size rfl [.string x1, .string x2] rfl hX (one2s x1 x2) hne hsz ?_; intro v' w5 ho5 hg5)
          | fail)
        obtain ⟨va, vc, rfl⟩ := own_form ho5
        have hb5 := hbX.grown hg5 hsz (fun q hq => (hoX.lt q hq).1)
        clear hoX hbX hX hg5
        go_wp2_with fail
        go_roundw
        case rel => exact ⟨k + 1, by omega, by go_num, by rw [HM.out, lcells_append, List.length_append, hlen]; exact ho5, hb5⟩
        case measure => simp [intOf]; omega
      · have HM := Lib.hid (show kept names b (l.take (k + 1)) = KK by rw [HN.out, HQ.out]; simp [e])
        have e' : (A == b) = false := by simpa using e
        go_wp2_with fail
        (with_reducible refine hAm.mono ?_)
        rintro e w1 ⟨rfl, rfl⟩
        go_wp2_with fail
        go_roundw
        case rel => exact ⟨k + 1, by omega, by go_num, by rw [HM.out]; exact ho, hbel⟩
        case measure => simp [intOf]; omega
    · obtain rfl : k = l.length := by omega
      have hK : l.take l.length = l := List.take_length
      rw [hK] at ho
      rw [hK]
      go_wp2_with fail
      go_ret
      exact ⟨_, rfl, ho, hbel⟩
end Go.Proofs.YtapoodnjkkhggaaGreat
