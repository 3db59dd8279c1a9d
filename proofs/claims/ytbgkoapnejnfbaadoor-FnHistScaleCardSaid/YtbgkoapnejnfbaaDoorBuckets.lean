/-
  The buckets that spans and deltas, or counts, mean.
-/
import Derived.Test.YtbgkoapnejnfbaaDoorWhole
import Derived.Test.YtbgkoapnejnfbaaDoorOpen
namespace Go.Proofs.YtbgkoapnejnfbaaDoor
set_option linter.unusedSimpArgs false
set_option linter.unusedVariables false
open Go.RowKit

/-- where the reading stands: the next index, how many counts are read, their sum, the buckets -/
structure Bst where
  at_ : Int
  n : Nat
  sum : Int
  out : List (Int × Int)

/-- the buckets of one span -/
def inner (fl : Bool) (ds : List Int) (cs : List Nat) : Nat → Bst → Option Bst
  | 0, s => some s
  | r + 1, s =>
    if (if fl = true then cs.length else ds.length) ≤ s.n then none else
    if fl = true then inner fl ds cs r ⟨wrap64 (s.at_ + 1), s.n + 1, s.sum, s.out ++ [(s.at_, Int.ofNat (cs.getD s.n 0))]⟩ else
    if wrap64 (s.sum + ds.getD s.n 0) < 0 then none else
    inner fl ds cs r ⟨wrap64 (s.at_ + 1), s.n + 1, wrap64 (s.sum + ds.getD s.n 0), s.out ++ [(s.at_, IntKind.u64.wrap (wrap64 (s.sum + ds.getD s.n 0)))]⟩

def outer (fl : Bool) (ds : List Int) (cs : List Nat) : Bool → List (Int × Int) → Bst → Option Bst
  | _, [], s => some s
  | first, x :: l, s =>
    if first = false ∧ x.1 < 0 then none else
    match inner fl ds cs x.2.toNat ⟨wrap64 (s.at_ + x.1), s.n, s.sum, s.out⟩ with
    | none => none
    | some s' => outer fl ds cs false l s'

def bkts (fl : Bool) (l : List (Int × Int)) (ds : List Int) (cs : List Nat) : List (Int × Int) × Bool :=
  match outer fl ds cs true l ⟨0, 0, 0, []⟩ with
  | none => ([], false)
  | some s => (s.out, decide (s.n = if fl = true then cs.length else ds.length))

theorem infoBucket : (Tryd.prog.info? 66).map (fun i => (i.zero, i.size, i.bytes)) = some (some (.agg #[.int .i64 0, .int .u64 0]), 2, 16) := by kernel_rfl


theorem outer_cons (fl : Bool) (ds : List Int) (cs : List Nat) (first : Bool) (x : Int × Int) (l : List (Int × Int)) (s : Bst) :
    outer fl ds cs first (x :: l) s = if first = false ∧ x.1 < 0 then none else match inner fl ds cs x.2.toNat ⟨wrap64 (s.at_ + x.1), s.n, s.sum, s.out⟩ with
    | none => none
    | some s' => outer fl ds cs false l s' := rfl
theorem inner_succ (fl : Bool) (ds : List Int) (cs : List Nat) (r : Nat) (s : Bst) :
    inner fl ds cs (r + 1) s = if (if fl = true then cs.length else ds.length) ≤ s.n then none else
    if fl = true then inner fl ds cs r ⟨wrap64 (s.at_ + 1), s.n + 1, s.sum, s.out ++ [(s.at_, Int.ofNat (cs.getD s.n 0))]⟩ else
    if wrap64 (s.sum + ds.getD s.n 0) < 0 then none else
    inner fl ds cs r ⟨wrap64 (s.at_ + 1), s.n + 1, wrap64 (s.sum + ds.getD s.n 0), s.out ++ [(s.at_, IntKind.u64.wrap (wrap64 (s.sum + ds.getD s.n 0)))]⟩ := rfl
theorem bkts_none {fl : Bool} {l : List (Int × Int)} {ds : List Int} {cs : List Nat} (h : outer fl ds cs true l ⟨0, 0, 0, []⟩ = none) : bkts fl l ds cs = ([], false) := by unfold bkts; rw [h]
theorem bkts_some {fl : Bool} {l : List (Int × Int)} {ds : List Int} {cs : List Nat} {s : Bst} (h : outer fl ds cs true l ⟨0, 0, 0, []⟩ = some s) : bkts fl l ds cs = (s.out, decide (s.n = if fl = true then cs.length else ds.length)) := by unfold bkts; rw [h]

theorem ownsRow_empty (w : World) (t : TypeId) (size : Nat) : (w.alloc (.cells #[] t)).ownsRow w.heap.size t size (.slice (some ⟨w.heap.size, 0, none⟩) 0 0) 0 [] :=
  ⟨by simp, .inr ⟨w.heap.size, 0, #[], rfl, Nat.le_refl _, heap_alloc_new w _, Nat.le_refl _, by simp, by simp, by simp⟩⟩

set_option maxRecDepth 100000 in
set_option maxHeartbeats 8000000 in
theorem buckets_any (fl : Bool) (v1 v2 v3 : Value) (l : List (Int × Int)) (ds : List Int) (cs : List Nat) (B : Nat) (w : World) (h1 : Pairs w B .i32 .u32 v1 l) (h2 : Ints w B .i64 v2 ds) (h3 : Ints w B .u64 v3 (cs.map Int.ofNat))
    (hl : l.length ≤ 2147483647) (hd : ds.length ≤ 2147483647) (hcl : cs.length ≤ 2147483647) (hu : ∀ x ∈ l, (-2147483648 ≤ x.1 ∧ x.1 ≤ 2147483647) ∧ 0 ≤ x.2 ∧ x.2 ≤ 4294967295) :
    Calls Tryd.prog 28 #[v1, v2, v3, .bool fl] w fun e w' => ∃ v, e = .returned (.tuple #[v, .bool (bkts fl l ds cs).2]) ∧ w'.ownsRow w.heap.size 66 2 v (bkts fl l ds cs).1.length (flat .i64 .u64 (bkts fl l ds cs).1) ∧ Below w.heap.size w w' := by
  obtain ⟨i0, hi, hz0, hz1, hz2⟩ := info_parts infoBucket
  obtain ⟨a1, c1, rfl, p1, q1⟩ := h1.form
  obtain ⟨a2, c2, rfl, p2, q2⟩ := h2.form
  obtain ⟨a3, c3, rfl, p3, q3⟩ := h3.form
  rw [List.length_map] at *
  cases fl with
  | false =>
    go_enter Tryd.func28, Tryd.ntmps28
    go_wp2
    have hB0 : Below w.heap.size w (w.alloc (.cells #[] 66)) := (Below.refl _ _).alloc (Nat.le_refl _) _
    have hO0 := ownsRow_empty w 66 2
    generalize w.alloc (.cells #[] 66) = W0 at *
    go_loopw [10, 11, 12, 13, 15] (fun v at_ n sum i wr => ∃ (k : Nat) (s : Bst), k ≤ l.length ∧ i = .int .i64 k ∧ at_ = .int .i64 s.at_ ∧ n = .int .i64 s.n ∧ sum = .int .i64 s.sum ∧ outer false ds cs true l ⟨0, 0, 0, []⟩ = outer false ds cs (decide (k = 0)) (l.drop k) s ∧
      s.n ≤ ds.length ∧ s.out.length = s.n ∧ wr.ownsRow w.heap.size 66 2 v s.out.length (flat .i64 .u64 s.out) ∧ Below w.heap.size w wr) (fun _ _ _ _ i _ => l.length - (intOf i).toNat)
    case atStart => exact ⟨0, ⟨0, 0, 0, []⟩, Nat.zero_le _, rfl, rfl, rfl, rfl, rfl, Nat.zero_le _, rfl, hO0, hB0⟩
    case round =>
      obtain ⟨k, ⟨at0, n0, sum0, out0⟩, hk, rfl, rfl, rfl, rfl, hout, hn, hol, hown, hbel⟩ := hrel
      simp only at hn hol hown
      by_cases hlt : k < l.length
      · obtain ⟨b, off, rfl, hbB, hBw, hc⟩ := h1.at_ (by omega)
        obtain ⟨c0, c1'⟩ := hc k hlt
        have e0 := (hbel.cell (p := ⟨b, off + k * 2, none⟩) (show b < w.heap.size by omega)).trans c0
        have e1 := (hbel.cell (p := ⟨b, off + k * 2 + 1, none⟩) (show b < w.heap.size by omega)).trans c1'
        have hux := hu l[k] (List.getElem_mem hlt)
        have hdr : l.drop k = l[k] :: l.drop (k + 1) := List.drop_eq_getElem_cons hlt
        rw [hdr, outer_cons] at hout
        clear hc hdr hu
        generalize l[k] = x at *
        obtain ⟨x0, x1⟩ := x
        simp only at hux e0 e1 hout c1'
        have ik0 : (0 : Int) ≤ (k : Int) := by omega
        have ik1 : (k : Int) < (l.length : Int) := by omega
        by_cases hneg : 0 < k ∧ x0 < 0
        · rw [if_pos ⟨by simp; omega, hneg.2⟩] at hout
          have hE := bkts_none hout
          have HE := Lib.hid hE
          obtain ⟨hk0, hx0⟩ := hneg
          clear hout hE hown
          go_wp2
          go_ret2
          all_goals exact ⟨_, by rw [HE.out]; rfl, by rw [HE.out]; exact World.ownsRow_nil _ _ _ _, hbel⟩
        · rw [if_neg (by rintro ⟨h1, h2⟩; exact hneg ⟨by simp at h1; omega, h2⟩)] at hout
          have HO := Lib.hid hout
          clear hout
          obtain ⟨m, rfl⟩ : ∃ m : Nat, x1 = m := ⟨x1.toNat, by omega⟩
          have HO := Lib.hid (show outer false ds cs true l ⟨0, 0, 0, []⟩ = match inner false ds cs m ⟨wrap64 (at0 + x0), n0, sum0, out0⟩ with | none => none | some s' => outer false ds cs false (l.drop (k + 1)) s' from HO.out)
          have hneg' : 0 < k → 0 ≤ x0 := fun h => by omega
          by_cases hk0 : 0 < k
          · have hx0 := hneg' hk0
            clear hneg hneg'
            go_wp2
            go_loopw [10, 11, 12, 13, 16] (fun v at_ n sum i wr => ∃ (j : Nat) (s : Bst), j ≤ m ∧ i = .int .u32 j ∧ at_ = .int .i64 s.at_ ∧ n = .int .i64 s.n ∧ sum = .int .i64 s.sum ∧ inner false ds cs m ⟨wrap64 (at0 + x0), n0, sum0, out0⟩ = inner false ds cs (m - j) s ∧
              s.n ≤ ds.length ∧ s.out.length = s.n ∧ wr.ownsRow w.heap.size 66 2 v s.out.length (flat .i64 .u64 s.out) ∧ Below w.heap.size w wr) (fun _ _ _ _ i _ => m - (intOf i).toNat)
            case atStart => exact ⟨0, ⟨wrap64 (at0 + x0), n0, sum0, out0⟩, Nat.zero_le _, rfl, rfl, rfl, rfl, rfl, hn, hol, hown, hbel⟩
            case round =>
              clear hown hbel e0 e1 hn hol
              obtain ⟨j, ⟨at1, n1, sum1, out1⟩, hj, rfl, rfl, rfl, rfl, hin, hn, hol, hown, hbel⟩ := hrel
              simp only at hn hol hown
              have e1 := (hbel.cell (p := ⟨b, off + k * 2 + 1, none⟩) (show b < w.heap.size by omega)).trans c1'
              have e0 := (hbel.cell (p := ⟨b, off + k * 2, none⟩) (show b < w.heap.size by omega)).trans c0
              by_cases hjm : j < m
              · rw [show m - j = (m - (j + 1)) + 1 by omega, inner_succ] at hin
                have jm : (j : Int) < (m : Int) := by omega
                by_cases hnm : ds.length ≤ n1
                · simp only [Bool.false_eq_true, if_false, if_pos hnm] at hin
                  have h2 := HO.out
                  rw [hin] at h2
                  have HE := Lib.hid (bkts_none h2)
                  clear h2 hin hown
                  have hnm' : (ds.length : Int) ≤ (n1 : Int) := by omega
                  go_wp2
                  go_ret2
                  all_goals exact ⟨_, by rw [HE.out]; rfl, by rw [HE.out]; exact World.ownsRow_nil _ _ _ _, hbel⟩
                · simp only [Bool.false_eq_true, if_false, if_neg hnm] at hin
                  obtain ⟨b2, off2, rfl, hb2, hb2w, hc2⟩ := h2.at_ (by omega)
                  have e2 := (hbel.cell (p := ⟨b2, off2 + n1, none⟩) (show b2 < w.heap.size by omega)).trans (hc2 n1 (by omega))
                  have hg : ds.getD n1 0 = ds[n1] := by simp [List.getD, (show n1 < ds.length by omega)]
                  rw [hg] at hin
                  have hnm' : ¬ (ds.length : Int) ≤ (n1 : Int) := by omega
                  have n10 : (0 : Int) ≤ (n1 : Int) := by omega
                  have n11 : (n1 : Int) < (ds.length : Int) := by omega
                  clear hc2 hg
                  generalize ds[n1] = d at *
                  by_cases hsn : wrap64 (sum1 + d) < 0
                  · rw [if_pos hsn] at hin
                    have h4 := HO.out
                    rw [hin] at h4
                    have HE := Lib.hid (bkts_none h4)
                    clear h4 hin hown
                    go_wp2
                    go_ret2
                    all_goals exact ⟨_, by rw [HE.out]; rfl, by rw [HE.out]; exact World.ownsRow_nil _ _ _ _, hbel⟩
                  · rw [if_neg hsn] at hin
                    have HI := Lib.hid hin
                    clear hin h2
                    have hfl : flat .i64 .u64 (out1 ++ [(at1, IntKind.u64.wrap (wrap64 (sum1 + d)))]) = flat .i64 .u64 out1 ++ [.int .i64 at1, .int .u64 (IntKind.u64.wrap (wrap64 (sum1 + d)))] := by rw [flat_append]; rfl
                    have HF := Lib.hid hfl
                    have HL := Lib.hid hol
                    clear hfl hol
                    go_wp2_with (at_builtin; refine wpList_append_own _ rfl (.tmp 77) (.tmp 82) 53 rfl w.heap.size 66 i0 (.agg #[.int .i64 0, .int .u64 0]) 2 16 Tryd.underlying53 hi hz0 hz1 hz2 rfl (by decide) _ out1.length _ rfl (hown.alloc _) ⟨wr.heap.size, 0, none⟩ 1 1 [.int .i64 at1, .int .u64 (IntKind.u64.wrap (wrap64 (sum1 + d)))] rfl rfl (news_at wr _ (by simp) _ _) (one2 _ _ _ _) (by have := HL.out; unfold maxLen; omega) (by have := HL.out; omega) (by have := hbel.size; simp; omega) ?_; intro v' w1 hown' hgrow hnil')
                    have hb1 : Below w.heap.size w w1 := (hbel.alloc hbel.size _).grown hgrow (by have := hbel.size; simp; omega) (fun q hq => (hown.lt q hq).1)
                    go_roundw
                    case rel => exact ⟨j + 1, ⟨wrap64 (at1 + 1), n1 + 1, wrap64 (sum1 + d), out1 ++ [(at1, IntKind.u64.wrap (wrap64 (sum1 + d)))]⟩, by omega, by simp, rfl, by simp, rfl, HI.out, by simp only; omega, by simp [HL.out], by simp only [List.length_append]; rw [HF.out]; exact hown', hb1⟩
                    case measure => simp [intOf]; omega
              · have hjm' : j = m := by omega
                subst hjm'
                rw [Nat.sub_self] at hin
                have h4 := HO.out
                rw [hin] at h4
                have HE := Lib.hid h4
                clear h4 hin
                go_wp2
                go_roundw
                case rel => exact ⟨k + 1, ⟨at1, n1, sum1, out1⟩, by omega, by simp, rfl, rfl, rfl, by have h5 := HE.out; simp only [inner] at h5; rw [h5]; simp, hn, hol, hown, hbel⟩
                case measure => simp [intOf]; omega
          · clear hneg hneg'
            go_wp2
            go_loopw [10, 11, 12, 13, 16] (fun v at_ n sum i wr => ∃ (j : Nat) (s : Bst), j ≤ m ∧ i = .int .u32 j ∧ at_ = .int .i64 s.at_ ∧ n = .int .i64 s.n ∧ sum = .int .i64 s.sum ∧ inner false ds cs m ⟨wrap64 (at0 + x0), n0, sum0, out0⟩ = inner false ds cs (m - j) s ∧
              s.n ≤ ds.length ∧ s.out.length = s.n ∧ wr.ownsRow w.heap.size 66 2 v s.out.length (flat .i64 .u64 s.out) ∧ Below w.heap.size w wr) (fun _ _ _ _ i _ => m - (intOf i).toNat)
            case atStart => exact ⟨0, ⟨wrap64 (at0 + x0), n0, sum0, out0⟩, Nat.zero_le _, rfl, rfl, rfl, rfl, rfl, hn, hol, hown, hbel⟩
            case round =>
              clear hown hbel e0 e1 hn hol
              obtain ⟨j, ⟨at1, n1, sum1, out1⟩, hj, rfl, rfl, rfl, rfl, hin, hn, hol, hown, hbel⟩ := hrel
              simp only at hn hol hown
              have e1 := (hbel.cell (p := ⟨b, off + k * 2 + 1, none⟩) (show b < w.heap.size by omega)).trans c1'
              have e0 := (hbel.cell (p := ⟨b, off + k * 2, none⟩) (show b < w.heap.size by omega)).trans c0
              by_cases hjm : j < m
              · rw [show m - j = (m - (j + 1)) + 1 by omega, inner_succ] at hin
                have jm : (j : Int) < (m : Int) := by omega
                by_cases hnm : ds.length ≤ n1
                · simp only [Bool.false_eq_true, if_false, if_pos hnm] at hin
                  have h2 := HO.out
                  rw [hin] at h2
                  have HE := Lib.hid (bkts_none h2)
                  clear h2 hin hown
                  have hnm' : (ds.length : Int) ≤ (n1 : Int) := by omega
                  go_wp2
                  go_ret2
                  all_goals exact ⟨_, by rw [HE.out]; rfl, by rw [HE.out]; exact World.ownsRow_nil _ _ _ _, hbel⟩
                · simp only [Bool.false_eq_true, if_false, if_neg hnm] at hin
                  obtain ⟨b2, off2, rfl, hb2, hb2w, hc2⟩ := h2.at_ (by omega)
                  have e2 := (hbel.cell (p := ⟨b2, off2 + n1, none⟩) (show b2 < w.heap.size by omega)).trans (hc2 n1 (by omega))
                  have hg : ds.getD n1 0 = ds[n1] := by simp [List.getD, (show n1 < ds.length by omega)]
                  rw [hg] at hin
                  have hnm' : ¬ (ds.length : Int) ≤ (n1 : Int) := by omega
                  have n10 : (0 : Int) ≤ (n1 : Int) := by omega
                  have n11 : (n1 : Int) < (ds.length : Int) := by omega
                  clear hc2 hg
                  generalize ds[n1] = d at *
                  by_cases hsn : wrap64 (sum1 + d) < 0
                  · rw [if_pos hsn] at hin
                    have h4 := HO.out
                    rw [hin] at h4
                    have HE := Lib.hid (bkts_none h4)
                    clear h4 hin hown
                    go_wp2
                    go_ret2
                    all_goals exact ⟨_, by rw [HE.out]; rfl, by rw [HE.out]; exact World.ownsRow_nil _ _ _ _, hbel⟩
                  · rw [if_neg hsn] at hin
                    have HI := Lib.hid hin
                    clear hin h2
                    have hfl : flat .i64 .u64 (out1 ++ [(at1, IntKind.u64.wrap (wrap64 (sum1 + d)))]) = flat .i64 .u64 out1 ++ [.int .i64 at1, .int .u64 (IntKind.u64.wrap (wrap64 (sum1 + d)))] := by rw [flat_append]; rfl
                    have HF := Lib.hid hfl
                    have HL := Lib.hid hol
                    clear hfl hol
                    go_wp2_with (at_builtin; refine wpList_append_own _ rfl (.tmp 77) (.tmp 82) 53 rfl w.heap.size 66 i0 (.agg #[.int .i64 0, .int .u64 0]) 2 16 Tryd.underlying53 hi hz0 hz1 hz2 rfl (by decide) _ out1.length _ rfl (hown.alloc _) ⟨wr.heap.size, 0, none⟩ 1 1 [.int .i64 at1, .int .u64 (IntKind.u64.wrap (wrap64 (sum1 + d)))] rfl rfl (news_at wr _ (by simp) _ _) (one2 _ _ _ _) (by have := HL.out; unfold maxLen; omega) (by have := HL.out; omega) (by have := hbel.size; simp; omega) ?_; intro v' w1 hown' hgrow hnil')
                    have hb1 : Below w.heap.size w w1 := (hbel.alloc hbel.size _).grown hgrow (by have := hbel.size; simp; omega) (fun q hq => (hown.lt q hq).1)
                    go_roundw
                    case rel => exact ⟨j + 1, ⟨wrap64 (at1 + 1), n1 + 1, wrap64 (sum1 + d), out1 ++ [(at1, IntKind.u64.wrap (wrap64 (sum1 + d)))]⟩, by omega, by simp, rfl, by simp, rfl, HI.out, by simp only; omega, by simp [HL.out], by simp only [List.length_append]; rw [HF.out]; exact hown', hb1⟩
                    case measure => simp [intOf]; omega
              · have hjm' : j = m := by omega
                subst hjm'
                rw [Nat.sub_self] at hin
                have h4 := HO.out
                rw [hin] at h4
                have HE := Lib.hid h4
                clear h4 hin
                go_wp2
                go_roundw
                case rel => exact ⟨k + 1, ⟨at1, n1, sum1, out1⟩, by omega, by simp, rfl, rfl, rfl, by have h5 := HE.out; simp only [inner] at h5; rw [h5]; simp, hn, hol, hown, hbel⟩
                case measure => simp [intOf]; omega
      · have hkl : k = l.length := by omega
        subst hkl
        rw [List.drop_length] at hout
        have HO := Lib.hid (bkts_some hout)
        clear hout
        go_wp2
        go_ret2
        have hb : ((n0 : Int) == (ds.length : Int)) = decide (n0 = ds.length) := by by_cases h : n0 = ds.length <;> simp [h]; omega
        all_goals exact ⟨_, by rw [HO.out]; simp only [Bool.false_eq_true, if_false]; rw [← hb]; rfl, by rw [HO.out]; exact hown, hbel⟩
  | true =>
    go_enter Tryd.func28, Tryd.ntmps28
    go_wp2
    have hB0 : Below w.heap.size w (w.alloc (.cells #[] 66)) := (Below.refl _ _).alloc (Nat.le_refl _) _
    have hO0 := ownsRow_empty w 66 2
    generalize w.alloc (.cells #[] 66) = W0 at *
    go_loopw [10, 11, 12, 13, 15] (fun v at_ n sum i wr => ∃ (k : Nat) (s : Bst), k ≤ l.length ∧ i = .int .i64 k ∧ at_ = .int .i64 s.at_ ∧ n = .int .i64 s.n ∧ sum = .int .i64 s.sum ∧ outer true ds cs true l ⟨0, 0, 0, []⟩ = outer true ds cs (decide (k = 0)) (l.drop k) s ∧
      s.n ≤ cs.length ∧ s.out.length = s.n ∧ wr.ownsRow w.heap.size 66 2 v s.out.length (flat .i64 .u64 s.out) ∧ Below w.heap.size w wr) (fun _ _ _ _ i _ => l.length - (intOf i).toNat)
    case atStart => exact ⟨0, ⟨0, 0, 0, []⟩, Nat.zero_le _, rfl, rfl, rfl, rfl, rfl, Nat.zero_le _, rfl, hO0, hB0⟩
    case round =>
      obtain ⟨k, ⟨at0, n0, sum0, out0⟩, hk, rfl, rfl, rfl, rfl, hout, hn, hol, hown, hbel⟩ := hrel
      simp only at hn hol hown
      by_cases hlt : k < l.length
      · obtain ⟨b, off, rfl, hbB, hBw, hc⟩ := h1.at_ (by omega)
        obtain ⟨c0, c1'⟩ := hc k hlt
        have e0 := (hbel.cell (p := ⟨b, off + k * 2, none⟩) (show b < w.heap.size by omega)).trans c0
        have e1 := (hbel.cell (p := ⟨b, off + k * 2 + 1, none⟩) (show b < w.heap.size by omega)).trans c1'
        have hux := hu l[k] (List.getElem_mem hlt)
        have hdr : l.drop k = l[k] :: l.drop (k + 1) := List.drop_eq_getElem_cons hlt
        rw [hdr, outer_cons] at hout
        clear hc hdr hu
        generalize l[k] = x at *
        obtain ⟨x0, x1⟩ := x
        simp only at hux e0 e1 hout c1'
        have ik0 : (0 : Int) ≤ (k : Int) := by omega
        have ik1 : (k : Int) < (l.length : Int) := by omega
        by_cases hneg : 0 < k ∧ x0 < 0
        · rw [if_pos ⟨by simp; omega, hneg.2⟩] at hout
          have hE := bkts_none hout
          have HE := Lib.hid hE
          obtain ⟨hk0, hx0⟩ := hneg
          clear hout hE hown
          go_wp2
          go_ret2
          all_goals exact ⟨_, by rw [HE.out]; rfl, by rw [HE.out]; exact World.ownsRow_nil _ _ _ _, hbel⟩
        · rw [if_neg (by rintro ⟨h1, h2⟩; exact hneg ⟨by simp at h1; omega, h2⟩)] at hout
          have HO := Lib.hid hout
          clear hout
          obtain ⟨m, rfl⟩ : ∃ m : Nat, x1 = m := ⟨x1.toNat, by omega⟩
          have HO := Lib.hid (show outer true ds cs true l ⟨0, 0, 0, []⟩ = match inner true ds cs m ⟨wrap64 (at0 + x0), n0, sum0, out0⟩ with | none => none | some s' => outer true ds cs false (l.drop (k + 1)) s' from HO.out)
          have hneg' : 0 < k → 0 ≤ x0 := fun h => by omega
          by_cases hk0 : 0 < k
          · have hx0 := hneg' hk0
            clear hneg hneg'
            go_wp2
            go_loopw [10, 11, 12, 13, 16] (fun v at_ n sum i wr => ∃ (j : Nat) (s : Bst), j ≤ m ∧ i = .int .u32 j ∧ at_ = .int .i64 s.at_ ∧ n = .int .i64 s.n ∧ sum = .int .i64 s.sum ∧ inner true ds cs m ⟨wrap64 (at0 + x0), n0, sum0, out0⟩ = inner true ds cs (m - j) s ∧
              s.n ≤ cs.length ∧ s.out.length = s.n ∧ wr.ownsRow w.heap.size 66 2 v s.out.length (flat .i64 .u64 s.out) ∧ Below w.heap.size w wr) (fun _ _ _ _ i _ => m - (intOf i).toNat)
            case atStart => exact ⟨0, ⟨wrap64 (at0 + x0), n0, sum0, out0⟩, Nat.zero_le _, rfl, rfl, rfl, rfl, rfl, hn, hol, hown, hbel⟩
            case round =>
              clear hown hbel e0 e1 hn hol
              obtain ⟨j, ⟨at1, n1, sum1, out1⟩, hj, rfl, rfl, rfl, rfl, hin, hn, hol, hown, hbel⟩ := hrel
              simp only at hn hol hown
              have e1 := (hbel.cell (p := ⟨b, off + k * 2 + 1, none⟩) (show b < w.heap.size by omega)).trans c1'
              have e0 := (hbel.cell (p := ⟨b, off + k * 2, none⟩) (show b < w.heap.size by omega)).trans c0
              by_cases hjm : j < m
              · rw [show m - j = (m - (j + 1)) + 1 by omega, inner_succ] at hin
                have jm : (j : Int) < (m : Int) := by omega
                by_cases hnm : cs.length ≤ n1
                · simp only [if_true, if_pos hnm] at hin
                  have h2 := HO.out
                  rw [hin] at h2
                  have HE := Lib.hid (bkts_none h2)
                  clear h2 hin hown
                  have hnm' : (cs.length : Int) ≤ (n1 : Int) := by omega
                  go_wp2
                  go_ret2
                  all_goals exact ⟨_, by rw [HE.out]; rfl, by rw [HE.out]; exact World.ownsRow_nil _ _ _ _, hbel⟩
                · simp only [if_true, if_neg hnm] at hin
                  obtain ⟨b2, off2, rfl, hb2, hb2w, hc2⟩ := h3.at_ (by simp; omega)
                  have e2 := (hbel.cell (p := ⟨b2, off2 + n1, none⟩) (show b2 < w.heap.size by omega)).trans (hc2 n1 (by simp; omega))
                  rw [List.getElem_map] at e2
                  have hg : cs.getD n1 0 = cs[n1] := by simp [List.getD, (show n1 < cs.length by omega)]
                  rw [hg] at hin
                  have hnm' : ¬ (cs.length : Int) ≤ (n1 : Int) := by omega
                  have n10 : (0 : Int) ≤ (n1 : Int) := by omega
                  have n11 : (n1 : Int) < (cs.length : Int) := by omega
                  clear hc2 hg
                  generalize cs[n1] = d at *
                  change _ = some (Value.int .u64 (d : Int)) at e2
                  have HI := Lib.hid hin
                  clear hin h3
                  have hfl : flat .i64 .u64 (out1 ++ [(at1, Int.ofNat d)]) = flat .i64 .u64 out1 ++ [.int .i64 at1, .int .u64 (Int.ofNat d)] := by rw [flat_append]; rfl
                  have HF := Lib.hid hfl
                  have HL := Lib.hid hol
                  clear hfl hol
                  go_wp2_with (at_builtin; refine wpList_append_own _ rfl (.tmp 60) (.tmp 67) 53 rfl w.heap.size 66 i0 (.agg #[.int .i64 0, .int .u64 0]) 2 16 Tryd.underlying53 hi hz0 hz1 hz2 rfl (by decide) _ out1.length _ rfl (hown.alloc _) ⟨wr.heap.size, 0, none⟩ 1 1 [.int .i64 at1, .int .u64 (Int.ofNat d)] rfl rfl (news_at wr _ (by simp) _ _) (one2 _ _ _ _) (by have := HL.out; unfold maxLen; omega) (by have := HL.out; omega) (by have := hbel.size; simp; omega) ?_; intro v' w1 hown' hgrow hnil')
                  have hb1 : Below w.heap.size w w1 := (hbel.alloc hbel.size _).grown hgrow (by have := hbel.size; simp; omega) (fun q hq => (hown.lt q hq).1)
                  go_roundw
                  case rel => exact ⟨j + 1, ⟨wrap64 (at1 + 1), n1 + 1, sum1, out1 ++ [(at1, Int.ofNat d)]⟩, by omega, by simp, rfl, by simp, rfl, HI.out, by simp only; omega, by simp [HL.out], by simp only [List.length_append]; rw [HF.out]; exact hown', hb1⟩
                  case measure => simp [intOf]; omega
              · have hjm' : j = m := by omega
                subst hjm'
                rw [Nat.sub_self] at hin
                have h4 := HO.out
                rw [hin] at h4
                have HE := Lib.hid h4
                clear h4 hin
                go_wp2
                go_roundw
                case rel => exact ⟨k + 1, ⟨at1, n1, sum1, out1⟩, by omega, by simp, rfl, rfl, rfl, by have h5 := HE.out; simp only [inner] at h5; rw [h5]; simp, hn, hol, hown, hbel⟩
                case measure => simp [intOf]; omega
          · clear hneg hneg'
            go_wp2
            go_loopw [10, 11, 12, 13, 16] (fun v at_ n sum i wr => ∃ (j : Nat) (s : Bst), j ≤ m ∧ i = .int .u32 j ∧ at_ = .int .i64 s.at_ ∧ n = .int .i64 s.n ∧ sum = .int .i64 s.sum ∧ inner true ds cs m ⟨wrap64 (at0 + x0), n0, sum0, out0⟩ = inner true ds cs (m - j) s ∧
              s.n ≤ cs.length ∧ s.out.length = s.n ∧ wr.ownsRow w.heap.size 66 2 v s.out.length (flat .i64 .u64 s.out) ∧ Below w.heap.size w wr) (fun _ _ _ _ i _ => m - (intOf i).toNat)
            case atStart => exact ⟨0, ⟨wrap64 (at0 + x0), n0, sum0, out0⟩, Nat.zero_le _, rfl, rfl, rfl, rfl, rfl, hn, hol, hown, hbel⟩
            case round =>
              clear hown hbel e0 e1 hn hol
              obtain ⟨j, ⟨at1, n1, sum1, out1⟩, hj, rfl, rfl, rfl, rfl, hin, hn, hol, hown, hbel⟩ := hrel
              simp only at hn hol hown
              have e1 := (hbel.cell (p := ⟨b, off + k * 2 + 1, none⟩) (show b < w.heap.size by omega)).trans c1'
              have e0 := (hbel.cell (p := ⟨b, off + k * 2, none⟩) (show b < w.heap.size by omega)).trans c0
              by_cases hjm : j < m
              · rw [show m - j = (m - (j + 1)) + 1 by omega, inner_succ] at hin
                have jm : (j : Int) < (m : Int) := by omega
                by_cases hnm : cs.length ≤ n1
                · simp only [if_true, if_pos hnm] at hin
                  have h2 := HO.out
                  rw [hin] at h2
                  have HE := Lib.hid (bkts_none h2)
                  clear h2 hin hown
                  have hnm' : (cs.length : Int) ≤ (n1 : Int) := by omega
                  go_wp2
                  go_ret2
                  all_goals exact ⟨_, by rw [HE.out]; rfl, by rw [HE.out]; exact World.ownsRow_nil _ _ _ _, hbel⟩
                · simp only [if_true, if_neg hnm] at hin
                  obtain ⟨b2, off2, rfl, hb2, hb2w, hc2⟩ := h3.at_ (by simp; omega)
                  have e2 := (hbel.cell (p := ⟨b2, off2 + n1, none⟩) (show b2 < w.heap.size by omega)).trans (hc2 n1 (by simp; omega))
                  rw [List.getElem_map] at e2
                  have hg : cs.getD n1 0 = cs[n1] := by simp [List.getD, (show n1 < cs.length by omega)]
                  rw [hg] at hin
                  have hnm' : ¬ (cs.length : Int) ≤ (n1 : Int) := by omega
                  have n10 : (0 : Int) ≤ (n1 : Int) := by omega
                  have n11 : (n1 : Int) < (cs.length : Int) := by omega
                  clear hc2 hg
                  generalize cs[n1] = d at *
                  change _ = some (Value.int .u64 (d : Int)) at e2
                  have HI := Lib.hid hin
                  clear hin h3
                  have hfl : flat .i64 .u64 (out1 ++ [(at1, Int.ofNat d)]) = flat .i64 .u64 out1 ++ [.int .i64 at1, .int .u64 (Int.ofNat d)] := by rw [flat_append]; rfl
                  have HF := Lib.hid hfl
                  have HL := Lib.hid hol
                  clear hfl hol
                  go_wp2_with (at_builtin; refine wpList_append_own _ rfl (.tmp 60) (.tmp 67) 53 rfl w.heap.size 66 i0 (.agg #[.int .i64 0, .int .u64 0]) 2 16 Tryd.underlying53 hi hz0 hz1 hz2 rfl (by decide) _ out1.length _ rfl (hown.alloc _) ⟨wr.heap.size, 0, none⟩ 1 1 [.int .i64 at1, .int .u64 (Int.ofNat d)] rfl rfl (news_at wr _ (by simp) _ _) (one2 _ _ _ _) (by have := HL.out; unfold maxLen; omega) (by have := HL.out; omega) (by have := hbel.size; simp; omega) ?_; intro v' w1 hown' hgrow hnil')
                  have hb1 : Below w.heap.size w w1 := (hbel.alloc hbel.size _).grown hgrow (by have := hbel.size; simp; omega) (fun q hq => (hown.lt q hq).1)
                  go_roundw
                  case rel => exact ⟨j + 1, ⟨wrap64 (at1 + 1), n1 + 1, sum1, out1 ++ [(at1, Int.ofNat d)]⟩, by omega, by simp, rfl, by simp, rfl, HI.out, by simp only; omega, by simp [HL.out], by simp only [List.length_append]; rw [HF.out]; exact hown', hb1⟩
                  case measure => simp [intOf]; omega
              · have hjm' : j = m := by omega
                subst hjm'
                rw [Nat.sub_self] at hin
                have h4 := HO.out
                rw [hin] at h4
                have HE := Lib.hid h4
                clear h4 hin
                go_wp2
                go_roundw
                case rel => exact ⟨k + 1, ⟨at1, n1, sum1, out1⟩, by omega, by simp, rfl, rfl, rfl, by have h5 := HE.out; simp only [inner] at h5; rw [h5]; simp, hn, hol, hown, hbel⟩
                case measure => simp [intOf]; omega
      · have hkl : k = l.length := by omega
        subst hkl
        rw [List.drop_length] at hout
        have HO := Lib.hid (bkts_some hout)
        clear hout
        go_wp2
        go_ret2
        have hb : ((n0 : Int) == (cs.length : Int)) = decide (n0 = cs.length) := by by_cases h : n0 = cs.length <;> simp [h]; omega
        all_goals exact ⟨_, by rw [HO.out]; simp only [if_true]; rw [← hb]; rfl, by rw [HO.out]; exact hown, hbel⟩
end Go.Proofs.YtbgkoapnejnfbaaDoor
