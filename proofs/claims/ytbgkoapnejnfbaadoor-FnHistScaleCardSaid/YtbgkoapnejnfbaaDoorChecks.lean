/-
  What Validate asks of spans and buckets.
-/
import Derived.Test.YtbgkoapnejnfbaaDoorWhole
namespace Go.Proofs.YtbgkoapnejnfbaaDoor
set_option linter.unusedSimpArgs false
set_option linter.unusedVariables false
open Go.RowKit

/-- a package-level variable that holds an error -/
def ErrAt (w : World) (g : Nat) : Prop := ∃ t p, w.cell? ⟨g, 0, none⟩ = some (.iface t p)
structure Errs (w : World) : Prop where
  big : ErrAt w 0
  mis : ErrAt w 1
  inv : ErrAt w 3
  inf : ErrAt w 4
  off : ErrAt w 5
  spn : ErrAt w 6
  cus : ErrAt w 7
  neg : ErrAt w 8
  lt : 9 ≤ w.heap.size

theorem ErrAt.below {w w' : World} {B g : Nat} (h : ErrAt w g) (hb : Below B w w') (hg : g < B) : ErrAt w' g := by
  obtain ⟨t, p, h⟩ := h
  exact ⟨t, p, (hb.cell (p := ⟨g, 0, none⟩) hg).trans h⟩
theorem Errs.below {w w' : World} {B : Nat} (h : Errs w) (hb : Below B w w') (hB : 9 ≤ B) : Errs w' := by
  refine ⟨h.big.below hb ?_, h.mis.below hb ?_, h.inv.below hb ?_, h.inf.below hb ?_, h.off.below hb ?_, h.spn.below hb ?_, h.cus.below hb ?_, h.neg.below hb ?_, Nat.le_trans h.lt hb.size⟩
  all_goals omega

/-- an error or none -/
def Ans (r : Value) (ok : Bool) : Prop := if ok = true then r = .nilIface else ∃ t p, r = .iface t p
theorem Ans.yes {r : Value} {ok : Bool} (h : ok = true) (hr : r = .nilIface) : Ans r ok := by unfold Ans; rw [if_pos h]; exact hr
theorem Ans.no {ok : Bool} {t : TypeId} {p : Value} (h : ok = false) : Ans (.iface t p) ok := by unfold Ans; rw [if_neg (by simp [h])]; exact ⟨t, p, rfl⟩

/-- the sum of the spans' lengths -/
def spanSum : List (Int × Int) → Int
  | [] => 0
  | x :: l => x.2 + spanSum l
theorem spanSum_append (l m : List (Int × Int)) : spanSum (l ++ m) = spanSum l + spanSum m := by
  induction l with
  | nil => simp [spanSum]
  | cons x l ih => simp only [List.cons_append, spanSum, ih]; omega
theorem spanSum_take {l : List (Int × Int)} {k : Nat} (h : k < l.length) : spanSum (l.take (k + 1)) = spanSum (l.take k) + l[k].2 := by
  rw [List.take_succ_eq_append_getElem h, spanSum_append]
  simp [spanSum]
/-- no span but the first one has an offset below 0 -/
def offsOk (l : List (Int × Int)) : Bool := l.tail.all fun x => decide (0 ≤ x.1)
theorem offsOk_no {l : List (Int × Int)} {k : Nat} (h : k < l.length) (h0 : 0 < k) (hn : l[k].1 < 0) : offsOk l = false := by
  unfold offsOk
  rw [List.all_eq_false]
  refine ⟨l[k], ?_, by simpa using hn⟩
  match l, k, h, h0 with
  | x :: l, k + 1, h, _ => simp
theorem offsOk_yes {l : List (Int × Int)} (h : ∀ k (hk : k < l.length), 0 < k → 0 ≤ l[k].1) : offsOk l = true := by
  unfold offsOk
  rw [List.all_eq_true]
  intro x hx
  obtain ⟨i, hi, rfl⟩ := List.getElem_of_mem hx
  simp only [List.length_tail] at hi
  have := h (i + 1) (by omega) (by omega)
  simpa using this

def spansOk (l : List (Int × Int)) (n : Int) : Bool := offsOk l && decide (spanSum l = n)

set_option maxRecDepth 100000 in
set_option maxHeartbeats 2000000 in
theorem checkSpans_any (v : Value) (l : List (Int × Int)) (n : Int) (B : Nat) (w : World) (h : Pairs w B .i32 .u32 v l) (hl : l.length ≤ 2147483647) (hu : ∀ x ∈ l, 0 ≤ x.2 ∧ x.2 ≤ 4294967295) (he : Errs w) :
    Calls Tryd.prog 84 #[v, .int .i64 n] w fun e w' => ∃ r, e = .returned r ∧ Ans r (spansOk l n) ∧ Below w.heap.size w w' := by
  obtain ⟨ao, cap, rfl, h1, h2⟩ := h.form
  go_enter Tryd.func84, Tryd.ntmps84
  go_wp2
  go_loopw [5, 10] (fun s i wr => ∃ k : Nat, k ≤ l.length ∧ i = .int .i64 k ∧ s = .int .i64 (spanSum (l.take k)) ∧ 0 ≤ spanSum (l.take k) ∧ spanSum (l.take k) ≤ k * 4294967295 ∧ (∀ j (hj : j < l.length), j < k → 0 < j → 0 ≤ l[j].1) ∧ Below w.heap.size w wr) (fun _ i _ => l.length - (intOf i).toNat)
  case atStart => exact ⟨0, Nat.zero_le _, rfl, rfl, by simp [spanSum], by simp [spanSum], fun j _ hj => absurd hj (by omega), Below.refl _ _⟩
  case round =>
    obtain ⟨k, hk, rfl, rfl, hs0, hs1, hoff, hbel⟩ := hrel
    by_cases hlt : k < l.length
    · obtain ⟨b, off, rfl, hbB, hBw, hc⟩ := h.at_ (by omega)
      obtain ⟨c0, c1⟩ := hc k hlt
      have c0' := (hbel.cell (p := ⟨b, off + k * 2, none⟩) (show b < w.heap.size by omega)).trans c0
      have c1' := (hbel.cell (p := ⟨b, off + k * 2 + 1, none⟩) (show b < w.heap.size by omega)).trans c1
      have hux := hu l[k] (List.getElem_mem hlt)
      have ht := spanSum_take hlt
      have hn0 : 0 < k → l[k].1 < 0 → offsOk l = false := offsOk_no hlt
      clear c0 c1 hc hu
      have hoff' : 0 ≤ l[k].1 ∨ k = 0 → ∀ j (hj : j < l.length), j < k + 1 → 0 < j → 0 ≤ l[j].1 := by
        intro hx j hj hjk hj0
        by_cases hjk' : j = k
        · subst hjk'; rcases hx with hx | hx
          · exact hx
          · omega
        · exact hoff j hj (by omega) hj0
      generalize hx : l[k] = x at *
      obtain ⟨x0, x1⟩ := x
      have HT := Lib.hid ht
      have HO := Lib.hid hoff'
      have HN := Lib.hid hn0
      clear ht hx h hoff hoff' hn0
      obtain ⟨t5, p5, he5⟩ := (he.below hbel he.lt).off
      have he5' : ∀ o, (wr.alloc o).cell? ⟨5, 0, none⟩ = some (.iface t5 p5) := fun o => (World.cell?_alloc_some wr _ o (by rw [he5]; rfl)).trans he5
      simp only at hux
      generalize hS : spanSum (List.take k l) = S at *
      have hb1 : Below w.heap.size w (wr.alloc (.cells #[.int .i32 x0, .int .u32 x1] 84)) := hbel.alloc hbel.size _
      clear hbel
      go_wp2
      case roundEnd =>
        go_roundw
        case rel => exact ⟨k + 1, by omega, by simp, by rw [HT.out], by rw [HT.out]; omega, by rw [HT.out]; simp; omega, HO.out (by omega), hb1⟩
        case measure => simp [intOf]; omega
      case roundEnd =>
        go_roundw
        case rel => exact ⟨k + 1, by omega, by simp, by rw [HT.out], by rw [HT.out]; omega, by rw [HT.out]; simp; omega, HO.out (by omega), hb1⟩
        case measure => simp [intOf]; omega
      · rename_i hk0 hx0
        go_ret
        exact ⟨_, rfl, Ans.no (by simp [spansOk, HN.out hk0 hx0]), hb1⟩
    · have hkl : k = l.length := by omega
      subst hkl
      obtain ⟨t5, p5, he5⟩ := (he.below hbel he.lt).spn
      have hT : List.take l.length l = l := List.take_length
      rw [hT] at hs0 hs1
      have ho := offsOk_yes fun j hj hj0 => hoff j hj hj hj0
      go_wp2
      · go_ret
        exact ⟨_, rfl, Ans.no (by simp_all [spansOk]), hbel⟩
      · go_ret
        exact ⟨_, rfl, Ans.yes (by simp_all [spansOk]) rfl, hbel⟩

/-- what the loop over deltas makes: whether no count is below 0, and the sum of the counts -/
def bk : List Int → Int → Int → Bool × Int
  | [], _, tot => (true, tot)
  | d :: l, last, tot => if wrap64 (last + d) < 0 then (false, tot) else bk l (wrap64 (last + d)) (IntKind.u64.wrap (tot + IntKind.u64.wrap (wrap64 (last + d))))

theorem grown_set {w wr : World} {c : Nat} (h : w.grownBy wr (some c)) (o : Nat) (u : Value) : w.grownBy (wr.setCell ⟨c, o, none⟩ u) (some c) :=
  ⟨h.os, h.tape, h.output, Nat.le_trans h.size (by simp [World.setCell]), fun k hk hn => (Below.heap_setCell _ _ _ _ (by intro e; exact hn (by simp [e]))).trans (h.block k hk hn)⟩

set_option maxRecDepth 100000 in
set_option maxHeartbeats 2000000 in
theorem checkInts_any (v : Value) (l : List Int) (c : Nat) (t0 : Int) (B : Nat) (w : World) (h : Ints w B .i64 v l) (hl : l.length ≤ 2147483647) (he : Errs w) (hc : w.cell? ⟨c, 0, none⟩ = some (.int .u64 t0)) (hz : w.frozen? ⟨c, 0, none⟩ = false) (hBc : B ≤ c) (h9 : 9 ≤ c) :
    Calls Tryd.prog 87 #[v, .pointer (some ⟨c, 0, none⟩), .bool true] w fun e w' => ∃ r, e = .returned r ∧ Ans r (bk l 0 t0).1 ∧ w.grownBy w' (some c) ∧ ((bk l 0 t0).1 = true → w'.cell? ⟨c, 0, none⟩ = some (.int .u64 (bk l 0 t0).2)) ∧ w'.frozen? ⟨c, 0, none⟩ = false := by
  obtain ⟨ao, cap, rfl, h1, h2⟩ := h.form
  obtain ⟨t8, p8, he8⟩ := he.neg
  by_cases hl0 : l = []
  · subst hl0
    go_enter Tryd.func87, Tryd.ntmps87
    go_wp2
    go_ret
    exact ⟨_, rfl, Ans.yes rfl rfl, ⟨rfl, rfl, rfl, Nat.le_refl _, fun _ _ _ => rfl⟩, fun _ => hc, hz⟩
  have hp : 0 < l.length := List.length_pos_iff.2 hl0
  have hlne : ((l.length : Int) == 0) = false := by simp; omega
  obtain ⟨b, off, rfl, hbB, hBw, hcs⟩ := h.at_ hp
  go_enter Tryd.func87, Tryd.ntmps87
  go_wp2
  go_loopw [7, 8] (fun x i wr => ∃ (k : Nat) (last tot : Int), k ≤ l.length ∧ i = .int .i64 k ∧ x = .int .i64 last ∧ bk l 0 t0 = bk (l.drop k) last tot ∧ wr.cell? ⟨c, 0, none⟩ = some (.int .u64 tot) ∧ wr.frozen? ⟨c, 0, none⟩ = false ∧ w.grownBy wr (some c)) (fun _ i _ => l.length - (intOf i).toNat)
  case atStart => exact ⟨0, 0, t0, Nat.zero_le _, rfl, rfl, by simp, hc, hz, ⟨rfl, rfl, rfl, Nat.le_refl _, fun _ _ _ => rfl⟩⟩
  case round =>
    obtain ⟨k, last, tot, hk, rfl, rfl, hbk, hcc, hzz, hg⟩ := hrel
    by_cases hlt : k < l.length
    · have c0 := (hg.cell (hcs k hlt) (by simp; omega))
      have e8 := hg.cell he8 (by simp; omega)
      have hd : l.drop k = l[k] :: l.drop (k + 1) := List.drop_eq_getElem_cons hlt
      rw [hd] at hbk
      have HB := Lib.hid hbk
      clear hbk hd hc hz h hcs he8 he
      generalize l[k] = x at *
      go_wp2
      · rename_i hneg
        go_ret
        have h2 := HB.out
        rw [bk, if_pos hneg] at h2
        rw [h2]
        exact ⟨_, rfl, Ans.no rfl, hg, (fun h => by cases h), hzz⟩
      · rename_i hneg
        go_roundw
        case rel =>
          have h2 := HB.out
          rw [bk, if_neg (by omega)] at h2
          exact ⟨k + 1, _, _, by omega, by simp, rfl, h2, World.cell?_setCell_same _ _ _ hcc, by simpa using hzz, grown_set hg _ _⟩
        case measure => simp [intOf]; omega
    · have hkl : k = l.length := by omega
      subst hkl
      go_wp2
      go_ret
      rw [List.drop_length] at hbk
      rw [hbk]
      exact ⟨_, rfl, Ans.yes rfl rfl, hg, fun _ => hcc, hzz⟩

theorem run_fadd {P : Program} (t : TypeId) (x y : Nat) : (∃ r, ∀ W, (binOp .add t (.float .f64 x) (.float .f64 y)).run P W = .ok (.float .f64 r) W) ∨ (∀ W, ∃ r, (binOp .add t (.float .f64 x) (.float .f64 y)).run P W = .ok (.float .f64 r) W.drew) := by
  cases h : FloatKind.f64.format.add x y with
  | some r => exact .inl ⟨r, fun W => run_float_arith W .add t .f64 x y r h⟩
  | none =>
    refine .inr fun W => ?_
    have hf : ∀ b : Nat, (Question.nanBits .f64 x y).forced = false := fun _ => rfl
    simp only [binOp, Op.floatArith, h, Sem.run_bind, Sem.run_pure, Result.andThen_ok, run_choose_drew, hf 0]
    exact ⟨_, rfl⟩

theorem run_store_float (P : Program) (w : World) (a : Addr) (m : Mode) (k : FloatKind) (x : Nat) : (store a (.float k x) m).run P w = stored P w a (.float k x) m := run_store P w a _ m rfl
theorem run_store_iface (P : Program) (w : World) (a : Addr) (m : Mode) (t : TypeId) (x : Value) : (store a (.iface t x) m).run P w = stored P w a (.iface t x) m := run_store P w a _ m rfl
attribute [local go_sem] run_store_float run_store_iface

theorem grown_drew {w wr : World} {r : Option Nat} (h : w.grownBy wr r) : w.grownBy wr.drew r := ⟨h.os, h.tape, h.output, h.size, h.block⟩

/-- no count is below 0 -/
def fk (l : List Nat) : Bool := l.all fun x => !(FloatKind.f64.format.order x 0 == some .lt)
theorem fk_cons (x : Nat) (l : List Nat) : fk (x :: l) = (!(FloatKind.f64.format.order x 0 == some .lt) && fk l) := rfl

set_option maxRecDepth 100000 in
set_option maxHeartbeats 4000000 in
theorem checkFloats_any (v : Value) (l : List Nat) (c : Nat) (t0 : Nat) (B : Nat) (w : World) (h : Floats w B v l) (hl : l.length ≤ 2147483647) (he : Errs w) (hc : w.cell? ⟨c, 0, none⟩ = some (.float .f64 t0)) (hz : w.frozen? ⟨c, 0, none⟩ = false) (hBc : B ≤ c) (h9 : 9 ≤ c) :
    Calls Tryd.prog 85 #[v, .pointer (some ⟨c, 0, none⟩), .bool false] w fun e w' => ∃ r, e = .returned r ∧ Ans r (fk l) ∧ w.grownBy w' (some c) ∧ (∃ u, w'.cell? ⟨c, 0, none⟩ = some u) ∧ w'.frozen? ⟨c, 0, none⟩ = false := by
  obtain ⟨ao, cap, rfl, h1, h2⟩ := h.form
  obtain ⟨t8, p8, he8⟩ := he.neg
  by_cases hl0 : l = []
  · subst hl0
    go_enter Tryd.func85, Tryd.ntmps85
    go_wp2
    go_ret
    exact ⟨_, rfl, Ans.yes rfl rfl, ⟨rfl, rfl, rfl, Nat.le_refl _, fun _ _ _ => rfl⟩, ⟨_, hc⟩, hz⟩
  have hp : 0 < l.length := List.length_pos_iff.2 hl0
  have hlne : ((l.length : Int) == 0) = false := by simp; omega
  obtain ⟨b, off, rfl, hbB, hBw, hcs⟩ := h.at_ hp
  go_enter Tryd.func85, Tryd.ntmps85
  go_wp2
  go_loopw [7, 8] (fun x i wr => ∃ (k : Nat) (last tot : Nat), k ≤ l.length ∧ i = .int .i64 k ∧ x = .float .f64 last ∧ fk l = fk (l.drop k) ∧ wr.cell? ⟨c, 0, none⟩ = some (.float .f64 tot) ∧ wr.frozen? ⟨c, 0, none⟩ = false ∧ w.grownBy wr (some c)) (fun _ i _ => l.length - (intOf i).toNat)
  case atStart => exact ⟨0, 0, t0, Nat.zero_le _, rfl, rfl, by simp, hc, hz, ⟨rfl, rfl, rfl, Nat.le_refl _, fun _ _ _ => rfl⟩⟩
  case round =>
    obtain ⟨k, last, tot, hk, rfl, rfl, hbk, hcc, hzz, hg⟩ := hrel
    by_cases hlt : k < l.length
    · have c0 := (hg.cell (hcs k hlt) (by simp; omega))
      have e8 := hg.cell he8 (by simp; omega)
      have hd : l.drop k = l[k] :: l.drop (k + 1) := List.drop_eq_getElem_cons hlt
      rw [hd, fk_cons] at hbk
      have HB := Lib.hid hbk
      clear hbk hd hc hz h hcs he8 he
      generalize l[k] = x at *
      cases ho : (FloatKind.f64.format.order x 0 == some .lt) with
      | true =>
        go_wp2
        go_ret
        have h2 := HB.out
        rw [ho] at h2
        exact ⟨_, rfl, Ans.no (by simpa using h2), hg, ⟨_, hcc⟩, hzz⟩
      | false =>
        rcases run_fadd (P := Tryd.prog) 67 tot x with ⟨r, hr⟩ | hr
        · go_wp2
          go_roundw
          case rel =>
            have h2 := HB.out
            rw [ho] at h2
            exact ⟨k + 1, _, _, by omega, by simp, rfl, by simpa using h2, World.cell?_setCell_same _ _ _ hcc, by simpa using hzz, grown_set (hg) _ _⟩
          case measure => simp [intOf]; omega
        · obtain ⟨r, hr⟩ := hr wr
          go_wp2
          go_roundw
          case rel =>
            have h2 := HB.out
            rw [ho] at h2
            exact ⟨k + 1, _, _, by omega, by simp, rfl, by simpa using h2, World.cell?_setCell_same _ _ _ (by simpa using hcc), by simpa using hzz, grown_set (grown_drew hg) _ _⟩
          case measure => simp [intOf]; omega
    · have hkl : k = l.length := by omega
      subst hkl
      go_wp2
      go_ret
      rw [List.drop_length] at hbk
      rw [hbk]
      exact ⟨_, rfl, Ans.yes rfl rfl, hg, ⟨_, hcc⟩, hzz⟩
end Go.Proofs.YtbgkoapnejnfbaaDoor
