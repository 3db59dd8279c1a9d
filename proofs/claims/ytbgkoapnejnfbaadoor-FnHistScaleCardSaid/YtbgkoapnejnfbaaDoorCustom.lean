/-
  What Validate asks of custom bounds.
-/
import Derived.Test.YtbgkoapnejnfbaaDoorChecks
namespace Go.Proofs.YtbgkoapnejnfbaaDoor
set_option linter.unusedSimpArgs false
set_option linter.unusedVariables false
open Go.RowKit
attribute [local go_sem] run_store_float run_store_iface

def fle (x y : Nat) : Bool := FloatKind.f64.format.order x y == some .lt || FloatKind.f64.format.order x y == some .eq
/-- bounds that increase: the last one -/
def incr : List Nat → Nat → Option Nat
  | [], p => some p
  | x :: l, p => if fle x p then none else incr l x
/-- the sum of lengths and offsets -/
def tot64 : List (Int × Int) → Int → Int
  | [], t => t
  | x :: l, t => tot64 l (wrap64 (t + (x.2 + x.1)))
def offs (l : List (Int × Int)) : Bool := l.all fun x => decide (0 ≤ x.1)

def customOk (b : List Nat) (l : List (Int × Int)) (n : Int) : Bool :=
  match incr b 18442240474082181120 with
  | none => false
  | some p => !(FloatKind.f64.format.order p 9218868437227405312 == some .eq) && (offs l && (decide (spanSum l = n) && !decide ((b.length : Int) + 1 < tot64 l 0)))

theorem inf_pos (w : World) : Calls Tryd.prog 102 #[.int .i64 1] w fun e w' => e = .returned (.float .f64 9218868437227405312) ∧ w = w' := by
  have hx := run94
  go_enter Tryd.func102, Tryd.ntmps102
  go_wp2
  go_ret
  exact ⟨rfl, rfl⟩
theorem inf_neg (w : World) : Calls Tryd.prog 102 #[.int .i64 (-1)] w fun e w' => e = .returned (.float .f64 18442240474082181120) ∧ w = w' := by
  have hx := run94
  go_enter Tryd.func102, Tryd.ntmps102
  go_wp2
  go_ret
  exact ⟨rfl, rfl⟩

set_option maxRecDepth 100000 in
set_option maxHeartbeats 4000000 in
theorem checkCustom_any (vb v : Value) (bs : List Nat) (l : List (Int × Int)) (n : Int) (B : Nat) (w : World) (hb : Floats w B vb bs) (h : Pairs w B .i32 .u32 v l) (hbl : bs.length ≤ 2147483647) (hl : l.length ≤ 2147483647)
    (hu : ∀ x ∈ l, (-2147483648 ≤ x.1 ∧ x.1 ≤ 2147483647) ∧ 0 ≤ x.2 ∧ x.2 ≤ 4294967295) (he : Errs w) :
    Calls Tryd.prog 82 #[vb, v, .int .i64 n] w fun e w' => ∃ r, e = .returned r ∧ Ans r (customOk bs l n) ∧ Below w.heap.size w w' := by
  obtain ⟨ao, cap, rfl, h1, h2⟩ := h.form
  obtain ⟨bo, bcap, rfl, g1, g2⟩ := hb.form
  obtain ⟨t3, p3, he3⟩ := he.inv
  obtain ⟨t4, p4, he4⟩ := he.inf
  go_enter Tryd.func82, Tryd.ntmps82
  go_wp2_with (go_at_call 102; refine (inf_neg _).mono ?_; rintro e w' ⟨rfl, rfl⟩)
  go_loopw [7, 17] (fun x i wr => ∃ (k : Nat) (p : Nat), k ≤ bs.length ∧ i = .int .i64 k ∧ x = .float .f64 p ∧ incr bs 18442240474082181120 = incr (bs.drop k) p ∧ w = wr) (fun _ i _ => bs.length - (intOf i).toNat)
  case atStart => exact ⟨0, _, Nat.zero_le _, rfl, rfl, by simp, rfl⟩
  case round =>
    obtain ⟨k, p, hk, rfl, rfl, hin, rfl⟩ := hrel
    by_cases hlt : k < bs.length
    · obtain ⟨b, off, rfl, hbB, hBw, hc⟩ := hb.at_ (by omega)
      have c0 := hc k hlt
      have hd : bs.drop k = bs[k] :: bs.drop (k + 1) := List.drop_eq_getElem_cons hlt
      rw [hd, incr] at hin
      have HB := Lib.hid hin
      clear hin hd hc hb h hu he
      generalize bs[k] = x at *
      cases ho : fle x p with
      | true =>
        have HO := Lib.hid ho
        unfold fle at ho
        go_wp2
        go_ret
        have h2 := HB.out
        rw [if_pos HO.out] at h2
        exact ⟨_, rfl, Ans.no (by simp [customOk, h2]), Below.refl _ _⟩
      | false =>
        have HO := Lib.hid ho
        unfold fle at ho
        go_wp2
        go_roundw
        case rel =>
          have h2 := HB.out
          rw [HO.out] at h2
          exact ⟨k + 1, _, by omega, by simp, rfl, by simpa using h2, trivial⟩
        case measure => simp [intOf]; omega
    · have hkl : k = bs.length := by omega
      subst hkl
      rw [List.drop_length, incr] at hin
      have HN := Lib.hid hin
      clear hin
      cases hinf : (FloatKind.f64.format.order p 9218868437227405312 == some .eq) with
      | true =>
        go_wp2_with (go_at_call 102; refine (inf_pos _).mono ?_; rintro e w' ⟨rfl, rfl⟩)
        go_ret
        have h2 := HN.out
        exact ⟨_, rfl, Ans.no (by simp only [customOk, h2, hinf]; rfl), Below.refl _ _⟩
      | false =>
       have HI := Lib.hid hinf
       go_wp2_with (go_at_call 102; refine (inf_pos _).mono ?_; rintro e w' ⟨rfl, rfl⟩)
       go_loopw [10, 11, 33] (fun s x i wr => ∃ (k : Nat) (y : Int), k ≤ l.length ∧ i = .int .i64 k ∧ s = .int .i64 (spanSum (l.take k)) ∧ x = .int .i64 y ∧ tot64 l 0 = tot64 (l.drop k) y ∧ 0 ≤ spanSum (l.take k) ∧ spanSum (l.take k) ≤ k * 4294967295 ∧ offs l = offs (l.drop k) ∧ Below w.heap.size w wr) (fun _ _ i _ => l.length - (intOf i).toNat)
       case atStart => exact ⟨0, 0, Nat.zero_le _, rfl, rfl, rfl, by simp, by simp [spanSum], by simp [spanSum], by simp, Below.refl _ _⟩
       case round =>
         obtain ⟨k, y, hk, rfl, rfl, rfl, hy, hs0, hs1, hoff, hbel⟩ := hrel
         by_cases hlt : k < l.length
         · obtain ⟨b, off, rfl, hbB, hBw, hc⟩ := h.at_ (by omega)
           obtain ⟨c0, c1⟩ := hc k hlt
           have c0' := (hbel.cell (p := ⟨b, off + k * 2, none⟩) (show b < w.heap.size by omega)).trans c0
           have c1' := (hbel.cell (p := ⟨b, off + k * 2 + 1, none⟩) (show b < w.heap.size by omega)).trans c1
           have hux := hu l[k] (List.getElem_mem hlt)
           have ht := spanSum_take hlt
           have hd : l.drop k = l[k] :: l.drop (k + 1) := List.drop_eq_getElem_cons hlt
           rw [hd, tot64] at hy
           have ho1 : offs l = (decide (0 ≤ l[k].1) && offs (l.drop (k + 1))) := by rw [hoff, hd]; rfl
           clear c0 c1 hc hu hoff hd hb
           generalize hx : l[k] = x at *
           obtain ⟨x0, x1⟩ := x
           have HT := Lib.hid ht
           have HO := Lib.hid ho1
           have HY := Lib.hid hy
           clear ht hx h ho1 hy hinf
           obtain ⟨t5, p5, he5⟩ := (he.below hbel he.lt).off
           have he5' : ∀ o, (wr.alloc o).cell? ⟨5, 0, none⟩ = some (.iface t5 p5) := fun o => (World.cell?_alloc_some wr _ o (by rw [he5]; rfl)).trans he5
           simp only at hux
           generalize hS : spanSum (List.take k l) = S at *
           have hb1 : Below w.heap.size w (wr.alloc (.cells #[.int .i32 x0, .int .u32 x1] 84)) := hbel.alloc hbel.size _
           clear hbel
           go_wp2
           · rename_i hneg
             go_ret
             have h2 := HN.out
             have h3 := HO.out
             have h4 : offs l = false := by rw [h3]; simp; omega
             exact ⟨_, rfl, Ans.no (by simp [customOk, h2, h4]), hb1⟩
           · go_roundw
             case rel => exact ⟨k + 1, _, by omega, by simp, by rw [HT.out], rfl, HY.out, by rw [HT.out]; omega, by rw [HT.out]; simp; omega, by rw [HO.out]; simp; omega, hb1⟩
             case measure => simp [intOf]; omega
         · have hkl : k = l.length := by omega
           subst hkl
           obtain ⟨t6, p6, he6⟩ := (he.below hbel he.lt).spn
           obtain ⟨t7, p7, he7⟩ := (he.below hbel he.lt).cus
           have hT : List.take l.length l = l := List.take_length
           rw [hT] at hs0 hs1
           rw [List.drop_length] at hy hoff
           have HO := Lib.hid hoff
           have HY := Lib.hid hy
           clear hy hoff hu hinf
           have ho : offs l = true := by rw [HO.out]; rfl
           have hyy : tot64 l 0 = y := by rw [HY.out]; rfl
           have HY2 := Lib.hid hyy
           have HO2 := Lib.hid ho
           clear hyy ho
           cases hsn : (spanSum l != n) with
           | true =>
             go_wp2
             go_ret
             have hsn' : spanSum l ≠ n := by simpa using hsn
             exact ⟨_, rfl, Ans.no (by simp only [customOk, HN.out]; simp [hsn']), hbel⟩
           | false =>
             have hsn' : spanSum l = n := by simpa using hsn
             have hsn'' := Lib.hid hsn'
             clear hsn'
             go_wp2
             · rename_i hlen
               go_ret
               have h5 := HY2.out
               exact ⟨_, rfl, Ans.no (by simp only [customOk, HN.out, h5]; simp; intros; omega), hbel⟩
             · rename_i hlen
               go_ret
               have h5 := HY2.out
               have h6 := HI.out
               have h7 : ¬ ((bs.length : Int) + 1 < y) := by omega
               exact ⟨_, rfl, Ans.yes (by simp only [customOk, HN.out, h5, h6, HO2.out, hsn''.out, h7]; simp) rfl, hbel⟩
end Go.Proofs.YtbgkoapnejnfbaaDoor
