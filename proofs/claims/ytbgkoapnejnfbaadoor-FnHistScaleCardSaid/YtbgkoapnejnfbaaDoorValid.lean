/-
  Validate.
-/
import Derived.Test.YtbgkoapnejnfbaaDoorCustom
namespace Go.Proofs.YtbgkoapnejnfbaaDoor
set_option linter.unusedSimpArgs false
set_option linter.unusedVariables false
open Go.RowKit
attribute [local go_sem] run_store_float run_store_iface
attribute [local go_sem ↓] Go.wp_at_zero Go.wp_at_succ

theorem errNew_any (s : ByteArray) (w : World) : Calls Tryd.prog 83 #[.string s] w fun e w' => ∃ t p, e = .returned (.iface t p) ∧ Below w.heap.size w w' := by
  go_enter Tryd.func83, Tryd.ntmps83
  go_wp2
  go_ret
  exact ⟨_, _, rfl, (Below.refl _ _).alloc (Nat.le_refl _) _⟩

theorem isNaN_any (x : Nat) (w : World) : Calls Tryd.prog 77 #[.float .f64 x] w fun e w' => e = .returned (.bool (!(FloatKind.f64.format.order x x == some .eq))) ∧ w = w' := by
  go_enter Tryd.func77, Tryd.ntmps77
  go_wp2
  go_ret
  exact ⟨rfl, rfl⟩

theorem uses_any (b : Nat) (s : Int) (w : World) (h : w.cell? ⟨b, 1, none⟩ = some (.int .i32 s)) : Calls Tryd.prog 86 #[.pointer (some ⟨b, 0, none⟩)] w fun e w' => e = .returned (.bool (s == -53)) ∧ w = w' := by
  go_enter Tryd.func86, Tryd.ntmps86
  go_wp2
  go_ret
  exact ⟨rfl, rfl⟩
theorem usesF_any (b : Nat) (s : Int) (w : World) (h : w.cell? ⟨b, 1, none⟩ = some (.int .i32 s)) : Calls Tryd.prog 81 #[.pointer (some ⟨b, 0, none⟩)] w fun e w' => e = .returned (.bool (s == -53)) ∧ w = w' := by
  go_enter Tryd.func81, Tryd.ntmps81
  go_wp2
  go_ret
  exact ⟨rfl, rfl⟩

/-! validate -/
/-- the cells of one block, kept -/
theorem keepAll {w w' : World} {B b : Nat} (hb : Below B w w') (hlt : b < B) {u0 u1 u2 u3 u4 u5 u6 u7 u8 u9 u10 : Value}
    (h : w.cell? ⟨b, 0, none⟩ = some u0 ∧ w.cell? ⟨b, 1, none⟩ = some u1 ∧ w.cell? ⟨b, 2, none⟩ = some u2 ∧ w.cell? ⟨b, 3, none⟩ = some u3 ∧ w.cell? ⟨b, 4, none⟩ = some u4 ∧ w.cell? ⟨b, 5, none⟩ = some u5 ∧ w.cell? ⟨b, 6, none⟩ = some u6 ∧ w.cell? ⟨b, 7, none⟩ = some u7 ∧ w.cell? ⟨b, 8, none⟩ = some u8 ∧ w.cell? ⟨b, 9, none⟩ = some u9 ∧ w.cell? ⟨b, 10, none⟩ = some u10) :
    w'.cell? ⟨b, 0, none⟩ = some u0 ∧ w'.cell? ⟨b, 1, none⟩ = some u1 ∧ w'.cell? ⟨b, 2, none⟩ = some u2 ∧ w'.cell? ⟨b, 3, none⟩ = some u3 ∧ w'.cell? ⟨b, 4, none⟩ = some u4 ∧ w'.cell? ⟨b, 5, none⟩ = some u5 ∧ w'.cell? ⟨b, 6, none⟩ = some u6 ∧ w'.cell? ⟨b, 7, none⟩ = some u7 ∧ w'.cell? ⟨b, 8, none⟩ = some u8 ∧ w'.cell? ⟨b, 9, none⟩ = some u9 ∧ w'.cell? ⟨b, 10, none⟩ = some u10 :=
  ⟨(hb.cell (p := ⟨b, 0, none⟩) hlt).trans h.1, (hb.cell (p := ⟨b, 1, none⟩) hlt).trans h.2.1, (hb.cell (p := ⟨b, 2, none⟩) hlt).trans h.2.2.1, (hb.cell (p := ⟨b, 3, none⟩) hlt).trans h.2.2.2.1, (hb.cell (p := ⟨b, 4, none⟩) hlt).trans h.2.2.2.2.1, (hb.cell (p := ⟨b, 5, none⟩) hlt).trans h.2.2.2.2.2.1, (hb.cell (p := ⟨b, 6, none⟩) hlt).trans h.2.2.2.2.2.2.1, (hb.cell (p := ⟨b, 7, none⟩) hlt).trans h.2.2.2.2.2.2.2.1, (hb.cell (p := ⟨b, 8, none⟩) hlt).trans h.2.2.2.2.2.2.2.2.1, (hb.cell (p := ⟨b, 9, none⟩) hlt).trans h.2.2.2.2.2.2.2.2.2.1, (hb.cell (p := ⟨b, 10, none⟩) hlt).trans h.2.2.2.2.2.2.2.2.2.2⟩

/-- where the walk stands: the two counts, in blocks of its own -/
structure Ctr (w W : World) (u v : Value) : Prop where
  bel : Below w.heap.size w W
  k1 : W.cell? ⟨w.heap.size, 0, none⟩ = some u
  k2 : W.cell? ⟨w.heap.size + 1, 0, none⟩ = some v
  z1 : W.frozen? ⟨w.heap.size, 0, none⟩ = false
  z2 : W.frozen? ⟨w.heap.size + 1, 0, none⟩ = false
  sz : w.heap.size + 2 ≤ W.heap.size
theorem Ctr.drew {w W : World} {u v : Value} (h : Ctr w W u v) : Ctr w W.drew u v := ⟨h.bel.drew, by simpa using h.k1, by simpa using h.k2, by simpa using h.z1, by simpa using h.z2, h.sz⟩
theorem Ctr.lt {w W : World} {u v : Value} (h : Ctr w W u v) {b : Nat} (hb : b < w.heap.size) : b < W.heap.size := by have := h.sz; omega
theorem Ctr.below {w W W' : World} {u v : Value} (h : Ctr w W u v) (hb : Below W.heap.size W W') : Ctr w W' u v := by
  have hs := h.sz
  exact ⟨h.bel.trans (hb.mono h.bel.size), (hb.cell (p := ⟨w.heap.size, 0, none⟩) (show w.heap.size < W.heap.size by omega)).trans h.k1, (hb.cell (p := ⟨w.heap.size + 1, 0, none⟩) (show w.heap.size + 1 < W.heap.size by omega)).trans h.k2, (hb.frozen (p := ⟨w.heap.size, 0, none⟩) (show w.heap.size < W.heap.size by omega)).trans h.z1, (hb.frozen (p := ⟨w.heap.size + 1, 0, none⟩) (show w.heap.size + 1 < W.heap.size by omega)).trans h.z2, Nat.le_trans hs hb.size⟩
theorem Ctr.one {w W W' : World} {u u' v : Value} (h : Ctr w W u v) (hg : W.grownBy W' (some w.heap.size)) (hu : W'.cell? ⟨w.heap.size, 0, none⟩ = some u') (hz : W'.frozen? ⟨w.heap.size, 0, none⟩ = false) : Ctr w W' u' v := by
  have hs := h.sz
  have e := hg.block (w.heap.size + 1) (by omega) (by simp)
  exact ⟨h.bel.grown hg (by omega) (fun q hq => by cases hq; exact Nat.le_refl _), hu, (World.cell?_of_block e).trans h.k2, hz, (World.frozen?_of_block e).trans h.z2, Nat.le_trans hs hg.size⟩
theorem Ctr.two {w W W' : World} {u v v' : Value} (h : Ctr w W u v) (hg : W.grownBy W' (some (w.heap.size + 1))) (hv : W'.cell? ⟨w.heap.size + 1, 0, none⟩ = some v') (hz : W'.frozen? ⟨w.heap.size + 1, 0, none⟩ = false) : Ctr w W' u v' := by
  have hs := h.sz
  have e := hg.block w.heap.size (by omega) (by simp)
  exact ⟨h.bel.grown hg (by omega) (fun q hq => by cases hq; omega), (World.cell?_of_block e).trans h.k1, hv, (World.frozen?_of_block e).trans h.z1, hz, Nat.le_trans hs hg.size⟩
theorem Ctr.ends {w W W' : World} {u v : Value} {c : Nat} (h : Ctr w W u v) (hg : W.grownBy W' (some c)) (hc : w.heap.size ≤ c) : Below w.heap.size w W' := by
  have hs := h.sz
  exact h.bel.grown hg (by omega) (fun q hq => by cases hq; exact hc)
theorem Ctr.start (w : World) (t : TypeId) (u : Value) : Ctr w ((w.alloc (.cells #[u] t)).alloc (.cells #[u] t)) u u :=
  ⟨((Below.refl w.heap.size w).alloc (Nat.le_refl _) _).alloc (by simp) _, by simp, by simp, by simp, by simp, by simp⟩
theorem isNaN_eq (x : Nat) (v : Bool) (w : World) (hv : (!(FloatKind.f64.format.order x x == some .eq)) = v) : Calls Tryd.prog 77 #[.float .f64 x] w fun e w' => e = .returned (.bool v) ∧ w = w' := by
  subst hv
  exact isNaN_any x w
theorem Ans.yesD {r : Value} (h : Ans r true) : r = .nilIface := by simpa [Ans] using h
theorem Ans.noD {r : Value} (h : Ans r false) : ∃ t p, r = .iface t p := by simpa [Ans] using h

/-- the counts add up -/
def countOk (n p zc cnt : Int) (sum : Nat) : Bool :=
  if (!(FloatKind.f64.format.order sum sum == some .eq)) = true then !decide (IntKind.u64.wrap (IntKind.u64.wrap (n + p) + zc) > cnt) else IntKind.u64.wrap (IntKind.u64.wrap (n + p) + zc) == cnt

def validI (h : Hist) : Bool :=
  if (h.schema == -53) = true then
    customOk h.cus h.pos h.ups.length && (h.zc == 0 && ((FloatKind.f64.format.order h.thr 0 == some .eq) && (h.neg.isEmpty && (h.downs.isEmpty && ((bk h.ups 0 0).1 && countOk 0 (bk h.ups 0 0).2 h.zc h.cnt h.sum)))))
  else
    spansOk h.pos h.ups.length && (spansOk h.neg h.downs.length && ((bk h.downs 0 0).1 && (h.cus.isEmpty && ((bk h.ups 0 0).1 && countOk (bk h.downs 0 0).2 (bk h.ups 0 0).2 h.zc h.cnt h.sum))))

structure Wf (h : Hist) : Prop where
  pos : ∀ x ∈ h.pos, (-2147483648 ≤ x.1 ∧ x.1 ≤ 2147483647) ∧ 0 ≤ x.2 ∧ x.2 ≤ 4294967295
  neg : ∀ x ∈ h.neg, (-2147483648 ≤ x.1 ∧ x.1 ≤ 2147483647) ∧ 0 ≤ x.2 ∧ x.2 ≤ 4294967295

def validF (h : Hist) : Bool :=
  if (h.schema == -53) = true then
    customOk h.cus h.pos h.fups.length && ((FloatKind.f64.format.order h.zc 0 == some .eq) && ((FloatKind.f64.format.order h.thr 0 == some .eq) && (h.neg.isEmpty && (h.fdowns.isEmpty && fk h.fups))))
  else
    spansOk h.pos h.fups.length && (spansOk h.neg h.fdowns.length && (fk h.fdowns && (h.cus.isEmpty && fk h.fups)))

set_option maxRecDepth 100000 in
set_option maxHeartbeats 4000000 in
theorem validI_any (b : Nat) (x1 x2 x3 x4 x5 : Value) (h : Hist) (w : World) (hc : w.cell? ⟨b, 0, none⟩ = some (.int .u8 h.hint) ∧ w.cell? ⟨b, 1, none⟩ = some (.int .i32 h.schema) ∧ w.cell? ⟨b, 2, none⟩ = some (.float .f64 h.thr) ∧ w.cell? ⟨b, 3, none⟩ = some (.int .u64 h.zc) ∧ w.cell? ⟨b, 4, none⟩ = some (.int .u64 h.cnt) ∧ w.cell? ⟨b, 5, none⟩ = some (.float .f64 h.sum) ∧ w.cell? ⟨b, 6, none⟩ = some (x1) ∧ w.cell? ⟨b, 7, none⟩ = some (x2) ∧ w.cell? ⟨b, 8, none⟩ = some (x3) ∧ w.cell? ⟨b, 9, none⟩ = some (x4) ∧ w.cell? ⟨b, 10, none⟩ = some (x5))
    (p1 : Pairs w w.heap.size .i32 .u32 x1 h.pos) (p2 : Pairs w w.heap.size .i32 .u32 x2 h.neg) (p3 : Ints w w.heap.size .i64 x3 h.ups) (p4 : Ints w w.heap.size .i64 x4 h.downs) (p5 : Floats w w.heap.size x5 h.cus)
    (n5 : x5 = .slice none 0 0 ↔ h.cus = []) (hf : Fits h) (hw : Wf h) (he : Errs w) (hbs : b < w.heap.size) :
    Calls Tryd.prog 34 #[.pointer (some ⟨b, 0, none⟩)] w fun e w' => ∃ r, e = .returned r ∧ Ans r (validI h) ∧ Below w.heap.size w w' := by
  obtain ⟨a1, c1, rfl, f11, f12⟩ := p1.form
  obtain ⟨a2, c2, rfl, f21, f22⟩ := p2.form
  obtain ⟨a3, c3, rfl, f31, f32⟩ := p3.form
  obtain ⟨a4, c4, rfl, f41, f42⟩ := p4.form
  obtain ⟨a5, c5, rfl, f51, f52⟩ := p5.form
  have hsch : ∀ o o', ((w.alloc o).alloc o').cell? ⟨b, 1, none⟩ = some (.int .i32 h.schema) := fun o o' => by
    have hB := ((Below.refl w.heap.size w).alloc (Nat.le_refl _) o).alloc (by simp) o'
    exact (hB.cell (p := ⟨b, 1, none⟩) hbs).trans hc.2.1
  go_enter Tryd.func34, Tryd.ntmps34
  have HC := Lib.hid hc
  clear hc
  cases hs : (h.schema == -53) with
  | false =>
    go_wp2_with (go_at_call 86; refine (uses_any b h.schema _ (hsch _ _)).mono ?_; rintro e w' ⟨rfl, rfl⟩)
    clear hsch
    have hC0 := Ctr.start w 22 (.int .u64 0)
    have hc := keepAll hC0.drew.bel hbs HC.out
    generalize ((w.alloc (.cells #[.int .u64 0] 22)).alloc (.cells #[.int .u64 0] 22)) = W0 at *
    cases hA1 : spansOk h.pos h.ups.length with
    | false =>
      go_region_held3 (fun w' => w'.cell? ⟨b, 0, none⟩ = some (.int .u8 h.hint) ∧ w'.cell? ⟨b, 1, none⟩ = some (.int .i32 h.schema) ∧ w'.cell? ⟨b, 2, none⟩ = some (.float .f64 h.thr) ∧ w'.cell? ⟨b, 3, none⟩ = some (.int .u64 h.zc) ∧ w'.cell? ⟨b, 4, none⟩ = some (.int .u64 h.cnt) ∧ w'.cell? ⟨b, 5, none⟩ = some (.float .f64 h.sum) ∧ w'.cell? ⟨b, 6, none⟩ = some (.slice a1 h.pos.length c1) ∧ w'.cell? ⟨b, 7, none⟩ = some (.slice a2 h.neg.length c2) ∧ w'.cell? ⟨b, 8, none⟩ = some (.slice a3 h.ups.length c3) ∧ w'.cell? ⟨b, 9, none⟩ = some (.slice a4 h.downs.length c4) ∧ w'.cell? ⟨b, 10, none⟩ = some (.slice a5 h.cus.length c5)) (first | assumption | exact keepAll hb1 (hC0.drew.lt hbs) (by assumption) | go_keep)
        (first | (go_at_call 84; refine (checkSpans_any (.slice a1 h.pos.length c1) h.pos h.ups.length w.heap.size _ (p1.below hC0.drew.bel (Nat.le_refl _)) hf.pos (fun x hx => (hw.pos x hx).2) (he.below hC0.drew.bel he.lt)).mono ?_; rintro e w1 ⟨r1, rfl, hr1, hb1⟩; rw [hA1] at hr1; obtain ⟨t9, p9, rfl⟩ := Ans.noD hr1; have hC1 := hC0.drew.below hb1))
      go_wp2_with fail
      go_ret
      exact ⟨_, rfl, Ans.no (by simp only [validI, hs, hA1]; rfl), hC1.bel⟩
    | true =>
      go_region_held3 (fun w' => w'.cell? ⟨b, 0, none⟩ = some (.int .u8 h.hint) ∧ w'.cell? ⟨b, 1, none⟩ = some (.int .i32 h.schema) ∧ w'.cell? ⟨b, 2, none⟩ = some (.float .f64 h.thr) ∧ w'.cell? ⟨b, 3, none⟩ = some (.int .u64 h.zc) ∧ w'.cell? ⟨b, 4, none⟩ = some (.int .u64 h.cnt) ∧ w'.cell? ⟨b, 5, none⟩ = some (.float .f64 h.sum) ∧ w'.cell? ⟨b, 6, none⟩ = some (.slice a1 h.pos.length c1) ∧ w'.cell? ⟨b, 7, none⟩ = some (.slice a2 h.neg.length c2) ∧ w'.cell? ⟨b, 8, none⟩ = some (.slice a3 h.ups.length c3) ∧ w'.cell? ⟨b, 9, none⟩ = some (.slice a4 h.downs.length c4) ∧ w'.cell? ⟨b, 10, none⟩ = some (.slice a5 h.cus.length c5)) (first | assumption | exact keepAll hb1 (hC0.drew.lt hbs) (by assumption) | go_keep)
        (first | (go_at_call 84; refine (checkSpans_any (.slice a1 h.pos.length c1) h.pos h.ups.length w.heap.size _ (p1.below hC0.drew.bel (Nat.le_refl _)) hf.pos (fun x hx => (hw.pos x hx).2) (he.below hC0.drew.bel he.lt)).mono ?_; rintro e w1 ⟨r1, rfl, hr1, hb1⟩; rw [hA1] at hr1; obtain rfl := Ans.yesD hr1; have hC1 := hC0.drew.below hb1))
      go_wp2_with fail
      cases hA2 : spansOk h.neg h.downs.length with
      | false =>
        go_region_held3 (fun w' => w'.cell? ⟨b, 0, none⟩ = some (.int .u8 h.hint) ∧ w'.cell? ⟨b, 1, none⟩ = some (.int .i32 h.schema) ∧ w'.cell? ⟨b, 2, none⟩ = some (.float .f64 h.thr) ∧ w'.cell? ⟨b, 3, none⟩ = some (.int .u64 h.zc) ∧ w'.cell? ⟨b, 4, none⟩ = some (.int .u64 h.cnt) ∧ w'.cell? ⟨b, 5, none⟩ = some (.float .f64 h.sum) ∧ w'.cell? ⟨b, 6, none⟩ = some (.slice a1 h.pos.length c1) ∧ w'.cell? ⟨b, 7, none⟩ = some (.slice a2 h.neg.length c2) ∧ w'.cell? ⟨b, 8, none⟩ = some (.slice a3 h.ups.length c3) ∧ w'.cell? ⟨b, 9, none⟩ = some (.slice a4 h.downs.length c4) ∧ w'.cell? ⟨b, 10, none⟩ = some (.slice a5 h.cus.length c5)) (first | assumption | exact keepAll hb2 (hC1.drew.lt hbs) (by assumption) | go_keep)
          (first | (go_at_call 84; refine (checkSpans_any (.slice a2 h.neg.length c2) h.neg h.downs.length w.heap.size _ (p2.below hC1.drew.bel (Nat.le_refl _)) hf.neg (fun x hx => (hw.neg x hx).2) (he.below hC1.drew.bel he.lt)).mono ?_; rintro e w2 ⟨r2, rfl, hr2, hb2⟩; rw [hA2] at hr2; obtain ⟨t9, p9, rfl⟩ := Ans.noD hr2; have hC2 := hC1.drew.below hb2))
        go_wp2_with fail
        go_ret
        exact ⟨_, rfl, Ans.no (by simp only [validI, hs, hA1, hA2]; rfl), hC2.bel⟩
      | true =>
        go_region_held3 (fun w' => w'.cell? ⟨b, 0, none⟩ = some (.int .u8 h.hint) ∧ w'.cell? ⟨b, 1, none⟩ = some (.int .i32 h.schema) ∧ w'.cell? ⟨b, 2, none⟩ = some (.float .f64 h.thr) ∧ w'.cell? ⟨b, 3, none⟩ = some (.int .u64 h.zc) ∧ w'.cell? ⟨b, 4, none⟩ = some (.int .u64 h.cnt) ∧ w'.cell? ⟨b, 5, none⟩ = some (.float .f64 h.sum) ∧ w'.cell? ⟨b, 6, none⟩ = some (.slice a1 h.pos.length c1) ∧ w'.cell? ⟨b, 7, none⟩ = some (.slice a2 h.neg.length c2) ∧ w'.cell? ⟨b, 8, none⟩ = some (.slice a3 h.ups.length c3) ∧ w'.cell? ⟨b, 9, none⟩ = some (.slice a4 h.downs.length c4) ∧ w'.cell? ⟨b, 10, none⟩ = some (.slice a5 h.cus.length c5)) (first | assumption | exact keepAll hb2 (hC1.drew.lt hbs) (by assumption) | go_keep)
          (first | (go_at_call 84; refine (checkSpans_any (.slice a2 h.neg.length c2) h.neg h.downs.length w.heap.size _ (p2.below hC1.drew.bel (Nat.le_refl _)) hf.neg (fun x hx => (hw.neg x hx).2) (he.below hC1.drew.bel he.lt)).mono ?_; rintro e w2 ⟨r2, rfl, hr2, hb2⟩; rw [hA2] at hr2; obtain rfl := Ans.yesD hr2; have hC2 := hC1.drew.below hb2))
        cases hA3 : (bk h.downs 0 0).1 with
        | false =>
          go_wp2_with (first | (go_at_call 87; with_reducible (show Calls _ _ #[(.slice a4 h.downs.length c4), _, _] _ _); refine (checkInts_any (.slice a4 h.downs.length c4) h.downs w.heap.size 0 w.heap.size _ (p4.below hC2.bel (Nat.le_refl _)) hf.downs (he.below hC2.bel he.lt) hC2.k1 hC2.z1 (by omega) (by have := he.lt; omega)).mono ?_; rintro e w3 ⟨r3, rfl, hr3, hg3, ht3, hz3⟩; rw [hA3] at hr3; obtain ⟨t9, p9, rfl⟩ := Ans.noD hr3; have hC3 := hC2.ends hg3 (by omega)))
          go_ret
          exact ⟨_, rfl, Ans.no (by simp [validI, hs, hA1, hA2, hA3]), hC3⟩
        | true =>
          by_cases hcu : h.cus = []
          · have e5 := n5.2 hcu
            obtain ⟨rfl, _, rfl⟩ := Value.slice.inj e5
            cases hA5 : (bk h.ups 0 0).1 with
            | false =>
              go_wp2_with (first | (go_at_call 87; with_reducible (show Calls _ _ #[(.slice a4 h.downs.length c4), _, _] _ _); refine (checkInts_any (.slice a4 h.downs.length c4) h.downs w.heap.size 0 w.heap.size _ (p4.below hC2.bel (Nat.le_refl _)) hf.downs (he.below hC2.bel he.lt) hC2.k1 hC2.z1 (by omega) (by have := he.lt; omega)).mono ?_; rintro e w3 ⟨r3, rfl, hr3, hg3, ht3, hz3⟩; rw [hA3] at hr3; obtain rfl := Ans.yesD hr3; have hC3 := hC2.one hg3 (ht3 hA3) hz3; have hc3 := keepAll hC3.bel hbs HC.out) | (go_at_call 87; with_reducible (show Calls _ _ #[(.slice a3 h.ups.length c3), _, _] _ _); refine (checkInts_any (.slice a3 h.ups.length c3) h.ups (w.heap.size + 1) 0 w.heap.size _ (p3.below hC3.bel (Nat.le_refl _)) hf.ups (he.below hC3.bel he.lt) hC3.k2 hC3.z2 (by omega) (by have := he.lt; omega)).mono ?_; rintro e w5 ⟨r5, rfl, hr5, hg5, ht5, hz5⟩; rw [hA5] at hr5; obtain ⟨t9, p9, rfl⟩ := Ans.noD hr5; have hC5 := hC3.ends hg5 (by omega)))
              go_ret
              exact ⟨_, rfl, Ans.no (by simp [validI, hs, hA1, hA2, hA3, hcu, hA5]), hC5⟩
            | true =>
              go_wp2_with (first | (go_at_call 87; with_reducible (show Calls _ _ #[(.slice a4 h.downs.length c4), _, _] _ _); refine (checkInts_any (.slice a4 h.downs.length c4) h.downs w.heap.size 0 w.heap.size _ (p4.below hC2.bel (Nat.le_refl _)) hf.downs (he.below hC2.bel he.lt) hC2.k1 hC2.z1 (by omega) (by have := he.lt; omega)).mono ?_; rintro e w3 ⟨r3, rfl, hr3, hg3, ht3, hz3⟩; rw [hA3] at hr3; obtain rfl := Ans.yesD hr3; have hC3 := hC2.one hg3 (ht3 hA3) hz3; have hc3 := keepAll hC3.bel hbs HC.out) | (go_at_call 87; with_reducible (show Calls _ _ #[(.slice a3 h.ups.length c3), _, _] _ _); refine (checkInts_any (.slice a3 h.ups.length c3) h.ups (w.heap.size + 1) 0 w.heap.size _ (p3.below hC3.bel (Nat.le_refl _)) hf.ups (he.below hC3.bel he.lt) hC3.k2 hC3.z2 (by omega) (by have := he.lt; omega)).mono ?_; rintro e w5 ⟨r5, rfl, hr5, hg5, ht5, hz5⟩; rw [hA5] at hr5; obtain rfl := Ans.yesD hr5; have hC5 := hC3.two hg5 (ht5 hA5) hz5))
              have hc5 := keepAll hC5.drew.bel hbs HC.out
              have kk1 := hC5.drew.k1
              have kk2 := hC5.drew.k2
              go_region_held3 (fun w' => w'.cell? ⟨b, 0, none⟩ = some (.int .u8 h.hint) ∧ w'.cell? ⟨b, 1, none⟩ = some (.int .i32 h.schema) ∧ w'.cell? ⟨b, 2, none⟩ = some (.float .f64 h.thr) ∧ w'.cell? ⟨b, 3, none⟩ = some (.int .u64 h.zc) ∧ w'.cell? ⟨b, 4, none⟩ = some (.int .u64 h.cnt) ∧ w'.cell? ⟨b, 5, none⟩ = some (.float .f64 h.sum) ∧ w'.cell? ⟨b, 6, none⟩ = some (.slice a1 h.pos.length c1) ∧ w'.cell? ⟨b, 7, none⟩ = some (.slice a2 h.neg.length c2) ∧ w'.cell? ⟨b, 8, none⟩ = some (.slice a3 h.ups.length c3) ∧ w'.cell? ⟨b, 9, none⟩ = some (.slice a4 h.downs.length c4) ∧ w'.cell? ⟨b, 10, none⟩ = some (.slice none h.cus.length 0) ∧ w'.cell? ⟨w.heap.size, 0, none⟩ = some (.int .u64 (bk h.downs 0 0).2) ∧ w'.cell? ⟨w.heap.size + 1, 0, none⟩ = some (.int .u64 (bk h.ups 0 0).2)) (first | exact ⟨hc5.1, hc5.2.1, hc5.2.2.1, hc5.2.2.2.1, hc5.2.2.2.2.1, hc5.2.2.2.2.2.1, hc5.2.2.2.2.2.2.1, hc5.2.2.2.2.2.2.2.1, hc5.2.2.2.2.2.2.2.2.1, hc5.2.2.2.2.2.2.2.2.2.1, hc5.2.2.2.2.2.2.2.2.2.2, kk1, kk2⟩ | go_keep)
                (fail)
              obtain ⟨t0, p0, he0⟩ := (he.below hC5.drew.bel he.lt).big
              obtain ⟨t1, p1, he1⟩ := (he.below hC5.drew.bel he.lt).mis
              have hv : validI h = countOk ((bk h.downs 0 0).2) (bk h.ups 0 0).2 h.zc h.cnt h.sum := by simp [validI, hs, hA1, hA2, hA3, hcu, hA5]
              have hv2 : countOk ((bk h.downs 0 0).2) (bk h.ups 0 0).2 h.zc h.cnt h.sum = if (!(FloatKind.f64.format.order h.sum h.sum == some .eq)) = true then !decide (IntKind.u64.wrap (IntKind.u64.wrap ((bk h.downs 0 0).2 + (bk h.ups 0 0).2) + h.zc) > h.cnt) else IntKind.u64.wrap (IntKind.u64.wrap ((bk h.downs 0 0).2 + (bk h.ups 0 0).2) + h.zc) == h.cnt := rfl
              rw [hv2] at hv
              have hbe := hC5.drew.bel
              clear kk1 kk2 hv2 HC hc5
              generalize IntKind.u64.wrap (IntKind.u64.wrap ((bk h.downs 0 0).2 + (bk h.ups 0 0).2) + h.zc) = T at *
              cases hN : (!(FloatKind.f64.format.order h.sum h.sum == some .eq)) with
              | true =>
                rw [if_pos hN] at hv
                have HV := Lib.hid hv
                have HN := Lib.hid hN
                clear hv hN
                go_wp2_with (go_at_call 77; refine (isNaN_eq h.sum true _ HN.out).mono ?_; rintro e w' ⟨rfl, rfl⟩)
                · rename_i hgt
                  go_ret
                  exact ⟨_, rfl, Ans.no (by rw [HV.out]; simpa using hgt), hbe⟩
                · rename_i hgt
                  go_ret
                  exact ⟨_, rfl, Ans.yes (by rw [HV.out]; simpa using hgt) rfl, hbe⟩
              | false =>
                rw [if_neg (by rw [hN]; decide)] at hv
                have HV := Lib.hid hv
                have HN := Lib.hid hN
                clear hv hN
                go_wp2_with (go_at_call 77; refine (isNaN_eq h.sum false _ HN.out).mono ?_; rintro e w' ⟨rfl, rfl⟩)
                · rename_i hgt
                  go_ret
                  exact ⟨_, rfl, Ans.no (by rw [HV.out]; simpa using hgt), hbe⟩
                · rename_i hgt
                  go_ret
                  exact ⟨_, rfl, Ans.yes (by rw [HV.out]; simpa using hgt) rfl, hbe⟩
          · obtain ⟨b5, o5, rfl, _⟩ := p5.at_ (List.length_pos_iff.2 hcu)
            go_wp2_with (first | (go_at_call 87; with_reducible (show Calls _ _ #[(.slice a4 h.downs.length c4), _, _] _ _); refine (checkInts_any (.slice a4 h.downs.length c4) h.downs w.heap.size 0 w.heap.size _ (p4.below hC2.bel (Nat.le_refl _)) hf.downs (he.below hC2.bel he.lt) hC2.k1 hC2.z1 (by omega) (by have := he.lt; omega)).mono ?_; rintro e w3 ⟨r3, rfl, hr3, hg3, ht3, hz3⟩; rw [hA3] at hr3; obtain rfl := Ans.yesD hr3; have hC3 := hC2.one hg3 (ht3 hA3) hz3; have hc3 := keepAll hC3.bel hbs HC.out) | (go_at_call 83; refine (errNew_any _ _).mono ?_; rintro e w4 ⟨t9, p9, rfl, hb4⟩; have hC4 := hC3.below hb4))
            go_ret
            exact ⟨_, rfl, Ans.no (by simp [validI, hs, hA1, hA2, hA3, hcu]), hC4.bel⟩
  | true =>
    go_wp2_with (go_at_call 86; refine (uses_any b h.schema _ (hsch _ _)).mono ?_; rintro e w' ⟨rfl, rfl⟩)
    clear hsch
    have hC0 := Ctr.start w 22 (.int .u64 0)
    have hc := keepAll hC0.drew.bel hbs HC.out
    generalize ((w.alloc (.cells #[.int .u64 0] 22)).alloc (.cells #[.int .u64 0] 22)) = W0 at *
    cases hA1 : customOk h.cus h.pos h.ups.length with
    | false =>
      go_region_held3 (fun w' => w'.cell? ⟨b, 0, none⟩ = some (.int .u8 h.hint) ∧ w'.cell? ⟨b, 1, none⟩ = some (.int .i32 h.schema) ∧ w'.cell? ⟨b, 2, none⟩ = some (.float .f64 h.thr) ∧ w'.cell? ⟨b, 3, none⟩ = some (.int .u64 h.zc) ∧ w'.cell? ⟨b, 4, none⟩ = some (.int .u64 h.cnt) ∧ w'.cell? ⟨b, 5, none⟩ = some (.float .f64 h.sum) ∧ w'.cell? ⟨b, 6, none⟩ = some (.slice a1 h.pos.length c1) ∧ w'.cell? ⟨b, 7, none⟩ = some (.slice a2 h.neg.length c2) ∧ w'.cell? ⟨b, 8, none⟩ = some (.slice a3 h.ups.length c3) ∧ w'.cell? ⟨b, 9, none⟩ = some (.slice a4 h.downs.length c4) ∧ w'.cell? ⟨b, 10, none⟩ = some (.slice a5 h.cus.length c5)) (first | assumption | exact keepAll hb1 (hC0.drew.lt hbs) (by assumption) | go_keep)
        (first | (go_at_call 82; refine (checkCustom_any (.slice a5 h.cus.length c5) (.slice a1 h.pos.length c1) h.cus h.pos h.ups.length w.heap.size _ (p5.below hC0.drew.bel (Nat.le_refl _)) (p1.below hC0.drew.bel (Nat.le_refl _)) hf.cus hf.pos hw.pos (he.below hC0.drew.bel he.lt)).mono ?_; rintro e w1 ⟨r1, rfl, hr1, hb1⟩; rw [hA1] at hr1; obtain ⟨t9, p9, rfl⟩ := Ans.noD hr1; have hC1 := hC0.drew.below hb1))
      go_wp2_with fail
      go_ret
      exact ⟨_, rfl, Ans.no (by simp only [validI, hs, hA1]; rfl), hC1.bel⟩
    | true =>
      go_region_held3 (fun w' => w'.cell? ⟨b, 0, none⟩ = some (.int .u8 h.hint) ∧ w'.cell? ⟨b, 1, none⟩ = some (.int .i32 h.schema) ∧ w'.cell? ⟨b, 2, none⟩ = some (.float .f64 h.thr) ∧ w'.cell? ⟨b, 3, none⟩ = some (.int .u64 h.zc) ∧ w'.cell? ⟨b, 4, none⟩ = some (.int .u64 h.cnt) ∧ w'.cell? ⟨b, 5, none⟩ = some (.float .f64 h.sum) ∧ w'.cell? ⟨b, 6, none⟩ = some (.slice a1 h.pos.length c1) ∧ w'.cell? ⟨b, 7, none⟩ = some (.slice a2 h.neg.length c2) ∧ w'.cell? ⟨b, 8, none⟩ = some (.slice a3 h.ups.length c3) ∧ w'.cell? ⟨b, 9, none⟩ = some (.slice a4 h.downs.length c4) ∧ w'.cell? ⟨b, 10, none⟩ = some (.slice a5 h.cus.length c5)) (first | assumption | exact keepAll hb1 (hC0.drew.lt hbs) (by assumption) | go_keep)
        (first | (go_at_call 82; refine (checkCustom_any (.slice a5 h.cus.length c5) (.slice a1 h.pos.length c1) h.cus h.pos h.ups.length w.heap.size _ (p5.below hC0.drew.bel (Nat.le_refl _)) (p1.below hC0.drew.bel (Nat.le_refl _)) hf.cus hf.pos hw.pos (he.below hC0.drew.bel he.lt)).mono ?_; rintro e w1 ⟨r1, rfl, hr1, hb1⟩; rw [hA1] at hr1; obtain rfl := Ans.yesD hr1; have hC1 := hC0.drew.below hb1))
      have hc1 := keepAll hC1.bel hbs HC.out
      by_cases hz0 : h.zc = 0
      · have hzb : ((h.zc : Int) != 0) = false := by simp [hz0]
        have HZ := Lib.hid hz0
        clear hz0
        cases hth : (FloatKind.f64.format.order h.thr 0 == some .eq) with
        | false =>
          have hthb : (FloatKind.f64.format.order h.thr 0 != some .eq) = true := by rw [bne, hth]; rfl
          go_wp2_with (first | (go_at_call 83; refine (errNew_any _ _).mono ?_; rintro e w4 ⟨t9, p9, rfl, hb4⟩; have hC4 := hC1.below hb4))
          go_ret
          exact ⟨_, rfl, Ans.no (by simp [validI, hs, hA1, HZ.out, hth]), hC4.bel⟩
        | true =>
          have hthb : (FloatKind.f64.format.order h.thr 0 != some .eq) = false := by rw [bne, hth]; rfl
          by_cases hng : h.neg = []
          · have hngl : ¬ (0 < h.neg.length) := by simp [hng]
            by_cases hdn : h.downs = []
            · have hdnl : ¬ (0 < h.downs.length) := by simp [hdn]
              have HG := Lib.hid hng
              have HD := Lib.hid hdn
              clear hng hdn
              cases hA5 : (bk h.ups 0 0).1 with
              | false =>
                go_wp2_with (first | (go_at_call 87; with_reducible (show Calls _ _ #[(.slice a3 h.ups.length c3), _, _] _ _); refine (checkInts_any (.slice a3 h.ups.length c3) h.ups (w.heap.size + 1) 0 w.heap.size _ (p3.below hC1.bel (Nat.le_refl _)) hf.ups (he.below hC1.bel he.lt) hC1.k2 hC1.z2 (by omega) (by have := he.lt; omega)).mono ?_; rintro e w5 ⟨r5, rfl, hr5, hg5, ht5, hz5⟩; rw [hA5] at hr5; obtain ⟨t9, p9, rfl⟩ := Ans.noD hr5; have hC5 := hC1.ends hg5 (by omega)))
                go_ret
                exact ⟨_, rfl, Ans.no (by simp [validI, hs, hA1, HZ.out, hth, HG.out, HD.out, hA5]), hC5⟩
              | true =>
                go_wp2_with (first | (go_at_call 87; with_reducible (show Calls _ _ #[(.slice a3 h.ups.length c3), _, _] _ _); refine (checkInts_any (.slice a3 h.ups.length c3) h.ups (w.heap.size + 1) 0 w.heap.size _ (p3.below hC1.bel (Nat.le_refl _)) hf.ups (he.below hC1.bel he.lt) hC1.k2 hC1.z2 (by omega) (by have := he.lt; omega)).mono ?_; rintro e w5 ⟨r5, rfl, hr5, hg5, ht5, hz5⟩; rw [hA5] at hr5; obtain rfl := Ans.yesD hr5; have hC5 := hC1.two hg5 (ht5 hA5) hz5))
                have hc5 := keepAll hC5.drew.bel hbs HC.out
                have kk1 := hC5.drew.k1
                have kk2 := hC5.drew.k2
                go_region_held3 (fun w' => w'.cell? ⟨b, 0, none⟩ = some (.int .u8 h.hint) ∧ w'.cell? ⟨b, 1, none⟩ = some (.int .i32 h.schema) ∧ w'.cell? ⟨b, 2, none⟩ = some (.float .f64 h.thr) ∧ w'.cell? ⟨b, 3, none⟩ = some (.int .u64 h.zc) ∧ w'.cell? ⟨b, 4, none⟩ = some (.int .u64 h.cnt) ∧ w'.cell? ⟨b, 5, none⟩ = some (.float .f64 h.sum) ∧ w'.cell? ⟨b, 6, none⟩ = some (.slice a1 h.pos.length c1) ∧ w'.cell? ⟨b, 7, none⟩ = some (.slice a2 h.neg.length c2) ∧ w'.cell? ⟨b, 8, none⟩ = some (.slice a3 h.ups.length c3) ∧ w'.cell? ⟨b, 9, none⟩ = some (.slice a4 h.downs.length c4) ∧ w'.cell? ⟨b, 10, none⟩ = some (.slice a5 h.cus.length c5) ∧ w'.cell? ⟨w.heap.size, 0, none⟩ = some (.int .u64 0) ∧ w'.cell? ⟨w.heap.size + 1, 0, none⟩ = some (.int .u64 (bk h.ups 0 0).2)) (first | exact ⟨hc5.1, hc5.2.1, hc5.2.2.1, hc5.2.2.2.1, hc5.2.2.2.2.1, hc5.2.2.2.2.2.1, hc5.2.2.2.2.2.2.1, hc5.2.2.2.2.2.2.2.1, hc5.2.2.2.2.2.2.2.2.1, hc5.2.2.2.2.2.2.2.2.2.1, hc5.2.2.2.2.2.2.2.2.2.2, kk1, kk2⟩ | go_keep)
                  (fail)
                obtain ⟨t0, p0, he0⟩ := (he.below hC5.drew.bel he.lt).big
                obtain ⟨t1, p1, he1⟩ := (he.below hC5.drew.bel he.lt).mis
                have hv : validI h = countOk (0) (bk h.ups 0 0).2 h.zc h.cnt h.sum := by simp [validI, hs, hA1, HZ.out, hth, HG.out, HD.out, hA5]
                have hv2 : countOk (0) (bk h.ups 0 0).2 h.zc h.cnt h.sum = if (!(FloatKind.f64.format.order h.sum h.sum == some .eq)) = true then !decide (IntKind.u64.wrap (IntKind.u64.wrap ((bk h.ups 0 0).2) + h.zc) > h.cnt) else IntKind.u64.wrap (IntKind.u64.wrap ((bk h.ups 0 0).2) + h.zc) == h.cnt := by unfold countOk; simp only [Int.zero_add]
                rw [hv2] at hv
                have hbe := hC5.drew.bel
                clear kk1 kk2 hv2 HC hc5
                generalize IntKind.u64.wrap (IntKind.u64.wrap ((bk h.ups 0 0).2) + h.zc) = T at *
                cases hN : (!(FloatKind.f64.format.order h.sum h.sum == some .eq)) with
                | true =>
                  rw [if_pos hN] at hv
                  have HV := Lib.hid hv
                  have HN := Lib.hid hN
                  clear hv hN
                  go_wp2_with (go_at_call 77; refine (isNaN_eq h.sum true _ HN.out).mono ?_; rintro e w' ⟨rfl, rfl⟩)
                  · rename_i hgt
                    go_ret
                    exact ⟨_, rfl, Ans.no (by rw [HV.out]; simpa using hgt), hbe⟩
                  · rename_i hgt
                    go_ret
                    exact ⟨_, rfl, Ans.yes (by rw [HV.out]; simpa using hgt) rfl, hbe⟩
                | false =>
                  rw [if_neg (by rw [hN]; decide)] at hv
                  have HV := Lib.hid hv
                  have HN := Lib.hid hN
                  clear hv hN
                  go_wp2_with (go_at_call 77; refine (isNaN_eq h.sum false _ HN.out).mono ?_; rintro e w' ⟨rfl, rfl⟩)
                  · rename_i hgt
                    go_ret
                    exact ⟨_, rfl, Ans.no (by rw [HV.out]; simpa using hgt), hbe⟩
                  · rename_i hgt
                    go_ret
                    exact ⟨_, rfl, Ans.yes (by rw [HV.out]; simpa using hgt) rfl, hbe⟩
            · have hdnl : 0 < h.downs.length := List.length_pos_iff.2 hdn
              go_wp2_with (first | (go_at_call 83; refine (errNew_any _ _).mono ?_; rintro e w4 ⟨t9, p9, rfl, hb4⟩; have hC4 := hC1.below hb4))
              go_ret
              exact ⟨_, rfl, Ans.no (by simp [validI, hs, hA1, HZ.out, hth, hng, hdn]), hC4.bel⟩
          · have hngl : 0 < h.neg.length := List.length_pos_iff.2 hng
            go_wp2_with (first | (go_at_call 83; refine (errNew_any _ _).mono ?_; rintro e w4 ⟨t9, p9, rfl, hb4⟩; have hC4 := hC1.below hb4))
            go_ret
            exact ⟨_, rfl, Ans.no (by simp [validI, hs, hA1, HZ.out, hth, hng]), hC4.bel⟩
      · have hzb : ((h.zc : Int) != 0) = true := by simp [hz0]
        go_wp2_with (first | (go_at_call 83; refine (errNew_any _ _).mono ?_; rintro e w4 ⟨t9, p9, rfl, hb4⟩; have hC4 := hC1.below hb4))
        go_ret
        exact ⟨_, rfl, Ans.no (by simp [validI, hs, hA1, hz0]), hC4.bel⟩

set_option maxRecDepth 100000 in
set_option maxHeartbeats 4000000 in
theorem validF_any (b : Nat) (x1 x2 x3 x4 x5 : Value) (h : Hist) (w : World) (hc : w.cell? ⟨b, 0, none⟩ = some (.int .u8 h.hint) ∧ w.cell? ⟨b, 1, none⟩ = some (.int .i32 h.schema) ∧ w.cell? ⟨b, 2, none⟩ = some (.float .f64 h.thr) ∧ w.cell? ⟨b, 3, none⟩ = some (.float .f64 h.zc) ∧ w.cell? ⟨b, 4, none⟩ = some (.float .f64 h.cnt) ∧ w.cell? ⟨b, 5, none⟩ = some (.float .f64 h.sum) ∧ w.cell? ⟨b, 6, none⟩ = some (x1) ∧ w.cell? ⟨b, 7, none⟩ = some (x2) ∧ w.cell? ⟨b, 8, none⟩ = some (x3) ∧ w.cell? ⟨b, 9, none⟩ = some (x4) ∧ w.cell? ⟨b, 10, none⟩ = some (x5))
    (p1 : Pairs w w.heap.size .i32 .u32 x1 h.pos) (p2 : Pairs w w.heap.size .i32 .u32 x2 h.neg) (p3 : Floats w w.heap.size x3 h.fups) (p4 : Floats w w.heap.size x4 h.fdowns) (p5 : Floats w w.heap.size x5 h.cus)
    (n5 : x5 = .slice none 0 0 ↔ h.cus = []) (hf : Fits h) (hw : Wf h) (he : Errs w) (hbs : b < w.heap.size) :
    Calls Tryd.prog 32 #[.pointer (some ⟨b, 0, none⟩)] w fun e w' => ∃ r, e = .returned r ∧ Ans r (validF h) ∧ Below w.heap.size w w' := by
  obtain ⟨a1, c1, rfl, f11, f12⟩ := p1.form
  obtain ⟨a2, c2, rfl, f21, f22⟩ := p2.form
  obtain ⟨a3, c3, rfl, f31, f32⟩ := p3.form
  obtain ⟨a4, c4, rfl, f41, f42⟩ := p4.form
  obtain ⟨a5, c5, rfl, f51, f52⟩ := p5.form
  have hsch : ∀ o o', ((w.alloc o).alloc o').cell? ⟨b, 1, none⟩ = some (.int .i32 h.schema) := fun o o' => by
    have hB := ((Below.refl w.heap.size w).alloc (Nat.le_refl _) o).alloc (by simp) o'
    exact (hB.cell (p := ⟨b, 1, none⟩) hbs).trans hc.2.1
  go_enter Tryd.func32, Tryd.ntmps32
  have HC := Lib.hid hc
  clear hc
  cases hs : (h.schema == -53) with
  | false =>
    go_wp2_with (go_at_call 81; refine (usesF_any b h.schema _ (hsch _ _)).mono ?_; rintro e w' ⟨rfl, rfl⟩)
    clear hsch
    have hC0 := Ctr.start w 67 (.float .f64 0)
    have hc := keepAll hC0.drew.bel hbs HC.out
    generalize ((w.alloc (.cells #[.float .f64 0] 67)).alloc (.cells #[.float .f64 0] 67)) = W0 at *
    cases hA1 : spansOk h.pos h.fups.length with
    | false =>
      go_region_held3 (fun w' => w'.cell? ⟨b, 0, none⟩ = some (.int .u8 h.hint) ∧ w'.cell? ⟨b, 1, none⟩ = some (.int .i32 h.schema) ∧ w'.cell? ⟨b, 2, none⟩ = some (.float .f64 h.thr) ∧ w'.cell? ⟨b, 3, none⟩ = some (.float .f64 h.zc) ∧ w'.cell? ⟨b, 4, none⟩ = some (.float .f64 h.cnt) ∧ w'.cell? ⟨b, 5, none⟩ = some (.float .f64 h.sum) ∧ w'.cell? ⟨b, 6, none⟩ = some (.slice a1 h.pos.length c1) ∧ w'.cell? ⟨b, 7, none⟩ = some (.slice a2 h.neg.length c2) ∧ w'.cell? ⟨b, 8, none⟩ = some (.slice a3 h.fups.length c3) ∧ w'.cell? ⟨b, 9, none⟩ = some (.slice a4 h.fdowns.length c4) ∧ w'.cell? ⟨b, 10, none⟩ = some (.slice a5 h.cus.length c5)) (first | assumption | exact keepAll hb1 (hC0.drew.lt hbs) (by assumption) | go_keep)
        (first | (go_at_call 84; refine (checkSpans_any (.slice a1 h.pos.length c1) h.pos h.fups.length w.heap.size _ (p1.below hC0.drew.bel (Nat.le_refl _)) hf.pos (fun x hx => (hw.pos x hx).2) (he.below hC0.drew.bel he.lt)).mono ?_; rintro e w1 ⟨r1, rfl, hr1, hb1⟩; rw [hA1] at hr1; obtain ⟨t9, p9, rfl⟩ := Ans.noD hr1; have hC1 := hC0.drew.below hb1))
      go_wp2_with fail
      go_ret
      exact ⟨_, rfl, Ans.no (by simp only [validF, hs, hA1]; rfl), hC1.bel⟩
    | true =>
      go_region_held3 (fun w' => w'.cell? ⟨b, 0, none⟩ = some (.int .u8 h.hint) ∧ w'.cell? ⟨b, 1, none⟩ = some (.int .i32 h.schema) ∧ w'.cell? ⟨b, 2, none⟩ = some (.float .f64 h.thr) ∧ w'.cell? ⟨b, 3, none⟩ = some (.float .f64 h.zc) ∧ w'.cell? ⟨b, 4, none⟩ = some (.float .f64 h.cnt) ∧ w'.cell? ⟨b, 5, none⟩ = some (.float .f64 h.sum) ∧ w'.cell? ⟨b, 6, none⟩ = some (.slice a1 h.pos.length c1) ∧ w'.cell? ⟨b, 7, none⟩ = some (.slice a2 h.neg.length c2) ∧ w'.cell? ⟨b, 8, none⟩ = some (.slice a3 h.fups.length c3) ∧ w'.cell? ⟨b, 9, none⟩ = some (.slice a4 h.fdowns.length c4) ∧ w'.cell? ⟨b, 10, none⟩ = some (.slice a5 h.cus.length c5)) (first | assumption | exact keepAll hb1 (hC0.drew.lt hbs) (by assumption) | go_keep)
        (first | (go_at_call 84; refine (checkSpans_any (.slice a1 h.pos.length c1) h.pos h.fups.length w.heap.size _ (p1.below hC0.drew.bel (Nat.le_refl _)) hf.pos (fun x hx => (hw.pos x hx).2) (he.below hC0.drew.bel he.lt)).mono ?_; rintro e w1 ⟨r1, rfl, hr1, hb1⟩; rw [hA1] at hr1; obtain rfl := Ans.yesD hr1; have hC1 := hC0.drew.below hb1))
      go_wp2_with fail
      cases hA2 : spansOk h.neg h.fdowns.length with
      | false =>
        go_region_held3 (fun w' => w'.cell? ⟨b, 0, none⟩ = some (.int .u8 h.hint) ∧ w'.cell? ⟨b, 1, none⟩ = some (.int .i32 h.schema) ∧ w'.cell? ⟨b, 2, none⟩ = some (.float .f64 h.thr) ∧ w'.cell? ⟨b, 3, none⟩ = some (.float .f64 h.zc) ∧ w'.cell? ⟨b, 4, none⟩ = some (.float .f64 h.cnt) ∧ w'.cell? ⟨b, 5, none⟩ = some (.float .f64 h.sum) ∧ w'.cell? ⟨b, 6, none⟩ = some (.slice a1 h.pos.length c1) ∧ w'.cell? ⟨b, 7, none⟩ = some (.slice a2 h.neg.length c2) ∧ w'.cell? ⟨b, 8, none⟩ = some (.slice a3 h.fups.length c3) ∧ w'.cell? ⟨b, 9, none⟩ = some (.slice a4 h.fdowns.length c4) ∧ w'.cell? ⟨b, 10, none⟩ = some (.slice a5 h.cus.length c5)) (first | assumption | exact keepAll hb2 (hC1.drew.lt hbs) (by assumption) | go_keep)
          (first | (go_at_call 84; refine (checkSpans_any (.slice a2 h.neg.length c2) h.neg h.fdowns.length w.heap.size _ (p2.below hC1.drew.bel (Nat.le_refl _)) hf.neg (fun x hx => (hw.neg x hx).2) (he.below hC1.drew.bel he.lt)).mono ?_; rintro e w2 ⟨r2, rfl, hr2, hb2⟩; rw [hA2] at hr2; obtain ⟨t9, p9, rfl⟩ := Ans.noD hr2; have hC2 := hC1.drew.below hb2))
        go_wp2_with fail
        go_ret
        exact ⟨_, rfl, Ans.no (by simp only [validF, hs, hA1, hA2]; rfl), hC2.bel⟩
      | true =>
        go_region_held3 (fun w' => w'.cell? ⟨b, 0, none⟩ = some (.int .u8 h.hint) ∧ w'.cell? ⟨b, 1, none⟩ = some (.int .i32 h.schema) ∧ w'.cell? ⟨b, 2, none⟩ = some (.float .f64 h.thr) ∧ w'.cell? ⟨b, 3, none⟩ = some (.float .f64 h.zc) ∧ w'.cell? ⟨b, 4, none⟩ = some (.float .f64 h.cnt) ∧ w'.cell? ⟨b, 5, none⟩ = some (.float .f64 h.sum) ∧ w'.cell? ⟨b, 6, none⟩ = some (.slice a1 h.pos.length c1) ∧ w'.cell? ⟨b, 7, none⟩ = some (.slice a2 h.neg.length c2) ∧ w'.cell? ⟨b, 8, none⟩ = some (.slice a3 h.fups.length c3) ∧ w'.cell? ⟨b, 9, none⟩ = some (.slice a4 h.fdowns.length c4) ∧ w'.cell? ⟨b, 10, none⟩ = some (.slice a5 h.cus.length c5)) (first | assumption | exact keepAll hb2 (hC1.drew.lt hbs) (by assumption) | go_keep)
          (first | (go_at_call 84; refine (checkSpans_any (.slice a2 h.neg.length c2) h.neg h.fdowns.length w.heap.size _ (p2.below hC1.drew.bel (Nat.le_refl _)) hf.neg (fun x hx => (hw.neg x hx).2) (he.below hC1.drew.bel he.lt)).mono ?_; rintro e w2 ⟨r2, rfl, hr2, hb2⟩; rw [hA2] at hr2; obtain rfl := Ans.yesD hr2; have hC2 := hC1.drew.below hb2))
        cases hA3 : fk h.fdowns with
        | false =>
          go_wp2_with (first | (go_at_call 85; with_reducible (show Calls _ _ #[(.slice a4 h.fdowns.length c4), _, _] _ _); refine (checkFloats_any (.slice a4 h.fdowns.length c4) h.fdowns w.heap.size 0 w.heap.size _ (p4.below hC2.bel (Nat.le_refl _)) hf.fdowns (he.below hC2.bel he.lt) hC2.k1 hC2.z1 (by omega) (by have := he.lt; omega)).mono ?_; rintro e w3 ⟨r3, rfl, hr3, hg3, ⟨q3, ht3⟩, hz3⟩; rw [hA3] at hr3; obtain ⟨t9, p9, rfl⟩ := Ans.noD hr3; have hC3 := hC2.ends hg3 (by omega)))
          go_ret
          exact ⟨_, rfl, Ans.no (by simp [validF, hs, hA1, hA2, hA3]), hC3⟩
        | true =>
          by_cases hcu : h.cus = []
          · have e5 := n5.2 hcu
            obtain ⟨rfl, _, rfl⟩ := Value.slice.inj e5
            cases hA5 : fk h.fups with
            | false =>
              go_wp2_with (first | (go_at_call 85; with_reducible (show Calls _ _ #[(.slice a4 h.fdowns.length c4), _, _] _ _); refine (checkFloats_any (.slice a4 h.fdowns.length c4) h.fdowns w.heap.size 0 w.heap.size _ (p4.below hC2.bel (Nat.le_refl _)) hf.fdowns (he.below hC2.bel he.lt) hC2.k1 hC2.z1 (by omega) (by have := he.lt; omega)).mono ?_; rintro e w3 ⟨r3, rfl, hr3, hg3, ⟨q3, ht3⟩, hz3⟩; rw [hA3] at hr3; obtain rfl := Ans.yesD hr3; have hC3 := hC2.one hg3 ht3 hz3; have hc3 := keepAll hC3.bel hbs HC.out) | (go_at_call 85; with_reducible (show Calls _ _ #[(.slice a3 h.fups.length c3), _, _] _ _); refine (checkFloats_any (.slice a3 h.fups.length c3) h.fups (w.heap.size + 1) 0 w.heap.size _ (p3.below hC3.bel (Nat.le_refl _)) hf.fups (he.below hC3.bel he.lt) hC3.k2 hC3.z2 (by omega) (by have := he.lt; omega)).mono ?_; rintro e w5 ⟨r5, rfl, hr5, hg5, ⟨q5, ht5⟩, hz5⟩; rw [hA5] at hr5; obtain ⟨t9, p9, rfl⟩ := Ans.noD hr5; have hC5 := hC3.ends hg5 (by omega)))
              go_ret
              exact ⟨_, rfl, Ans.no (by simp [validF, hs, hA1, hA2, hA3, hcu, hA5]), hC5⟩
            | true =>
              go_wp2_with (first | (go_at_call 85; with_reducible (show Calls _ _ #[(.slice a4 h.fdowns.length c4), _, _] _ _); refine (checkFloats_any (.slice a4 h.fdowns.length c4) h.fdowns w.heap.size 0 w.heap.size _ (p4.below hC2.bel (Nat.le_refl _)) hf.fdowns (he.below hC2.bel he.lt) hC2.k1 hC2.z1 (by omega) (by have := he.lt; omega)).mono ?_; rintro e w3 ⟨r3, rfl, hr3, hg3, ⟨q3, ht3⟩, hz3⟩; rw [hA3] at hr3; obtain rfl := Ans.yesD hr3; have hC3 := hC2.one hg3 ht3 hz3; have hc3 := keepAll hC3.bel hbs HC.out) | (go_at_call 85; with_reducible (show Calls _ _ #[(.slice a3 h.fups.length c3), _, _] _ _); refine (checkFloats_any (.slice a3 h.fups.length c3) h.fups (w.heap.size + 1) 0 w.heap.size _ (p3.below hC3.bel (Nat.le_refl _)) hf.fups (he.below hC3.bel he.lt) hC3.k2 hC3.z2 (by omega) (by have := he.lt; omega)).mono ?_; rintro e w5 ⟨r5, rfl, hr5, hg5, ⟨q5, ht5⟩, hz5⟩; rw [hA5] at hr5; obtain rfl := Ans.yesD hr5; have hC5 := hC3.two hg5 ht5 hz5))
              go_ret
              exact ⟨_, rfl, Ans.yes (by simp [validF, hs, hA1, hA2, hA3, hcu, hA5]) rfl, hC5.bel⟩
          · obtain ⟨b5, o5, rfl, _⟩ := p5.at_ (List.length_pos_iff.2 hcu)
            go_wp2_with (first | (go_at_call 85; with_reducible (show Calls _ _ #[(.slice a4 h.fdowns.length c4), _, _] _ _); refine (checkFloats_any (.slice a4 h.fdowns.length c4) h.fdowns w.heap.size 0 w.heap.size _ (p4.below hC2.bel (Nat.le_refl _)) hf.fdowns (he.below hC2.bel he.lt) hC2.k1 hC2.z1 (by omega) (by have := he.lt; omega)).mono ?_; rintro e w3 ⟨r3, rfl, hr3, hg3, ⟨q3, ht3⟩, hz3⟩; rw [hA3] at hr3; obtain rfl := Ans.yesD hr3; have hC3 := hC2.one hg3 ht3 hz3; have hc3 := keepAll hC3.bel hbs HC.out) | (go_at_call 83; refine (errNew_any _ _).mono ?_; rintro e w4 ⟨t9, p9, rfl, hb4⟩; have hC4 := hC3.below hb4))
            go_ret
            exact ⟨_, rfl, Ans.no (by simp [validF, hs, hA1, hA2, hA3, hcu]), hC4.bel⟩
  | true =>
    go_wp2_with (go_at_call 81; refine (usesF_any b h.schema _ (hsch _ _)).mono ?_; rintro e w' ⟨rfl, rfl⟩)
    clear hsch
    have hC0 := Ctr.start w 67 (.float .f64 0)
    have hc := keepAll hC0.drew.bel hbs HC.out
    generalize ((w.alloc (.cells #[.float .f64 0] 67)).alloc (.cells #[.float .f64 0] 67)) = W0 at *
    cases hA1 : customOk h.cus h.pos h.fups.length with
    | false =>
      go_region_held3 (fun w' => w'.cell? ⟨b, 0, none⟩ = some (.int .u8 h.hint) ∧ w'.cell? ⟨b, 1, none⟩ = some (.int .i32 h.schema) ∧ w'.cell? ⟨b, 2, none⟩ = some (.float .f64 h.thr) ∧ w'.cell? ⟨b, 3, none⟩ = some (.float .f64 h.zc) ∧ w'.cell? ⟨b, 4, none⟩ = some (.float .f64 h.cnt) ∧ w'.cell? ⟨b, 5, none⟩ = some (.float .f64 h.sum) ∧ w'.cell? ⟨b, 6, none⟩ = some (.slice a1 h.pos.length c1) ∧ w'.cell? ⟨b, 7, none⟩ = some (.slice a2 h.neg.length c2) ∧ w'.cell? ⟨b, 8, none⟩ = some (.slice a3 h.fups.length c3) ∧ w'.cell? ⟨b, 9, none⟩ = some (.slice a4 h.fdowns.length c4) ∧ w'.cell? ⟨b, 10, none⟩ = some (.slice a5 h.cus.length c5)) (first | assumption | exact keepAll hb1 (hC0.drew.lt hbs) (by assumption) | go_keep)
        (first | (go_at_call 82; refine (checkCustom_any (.slice a5 h.cus.length c5) (.slice a1 h.pos.length c1) h.cus h.pos h.fups.length w.heap.size _ (p5.below hC0.drew.bel (Nat.le_refl _)) (p1.below hC0.drew.bel (Nat.le_refl _)) hf.cus hf.pos hw.pos (he.below hC0.drew.bel he.lt)).mono ?_; rintro e w1 ⟨r1, rfl, hr1, hb1⟩; rw [hA1] at hr1; obtain ⟨t9, p9, rfl⟩ := Ans.noD hr1; have hC1 := hC0.drew.below hb1))
      go_wp2_with fail
      go_ret
      exact ⟨_, rfl, Ans.no (by simp only [validF, hs, hA1]; rfl), hC1.bel⟩
    | true =>
      go_region_held3 (fun w' => w'.cell? ⟨b, 0, none⟩ = some (.int .u8 h.hint) ∧ w'.cell? ⟨b, 1, none⟩ = some (.int .i32 h.schema) ∧ w'.cell? ⟨b, 2, none⟩ = some (.float .f64 h.thr) ∧ w'.cell? ⟨b, 3, none⟩ = some (.float .f64 h.zc) ∧ w'.cell? ⟨b, 4, none⟩ = some (.float .f64 h.cnt) ∧ w'.cell? ⟨b, 5, none⟩ = some (.float .f64 h.sum) ∧ w'.cell? ⟨b, 6, none⟩ = some (.slice a1 h.pos.length c1) ∧ w'.cell? ⟨b, 7, none⟩ = some (.slice a2 h.neg.length c2) ∧ w'.cell? ⟨b, 8, none⟩ = some (.slice a3 h.fups.length c3) ∧ w'.cell? ⟨b, 9, none⟩ = some (.slice a4 h.fdowns.length c4) ∧ w'.cell? ⟨b, 10, none⟩ = some (.slice a5 h.cus.length c5)) (first | assumption | exact keepAll hb1 (hC0.drew.lt hbs) (by assumption) | go_keep)
        (first | (go_at_call 82; refine (checkCustom_any (.slice a5 h.cus.length c5) (.slice a1 h.pos.length c1) h.cus h.pos h.fups.length w.heap.size _ (p5.below hC0.drew.bel (Nat.le_refl _)) (p1.below hC0.drew.bel (Nat.le_refl _)) hf.cus hf.pos hw.pos (he.below hC0.drew.bel he.lt)).mono ?_; rintro e w1 ⟨r1, rfl, hr1, hb1⟩; rw [hA1] at hr1; obtain rfl := Ans.yesD hr1; have hC1 := hC0.drew.below hb1))
      have hc1 := keepAll hC1.bel hbs HC.out
      cases hA7 : (FloatKind.f64.format.order h.zc 0 == some .eq) with
      | false =>
        have hzb : (FloatKind.f64.format.order h.zc 0 != some .eq) = true := by rw [bne, hA7]; rfl
        go_wp2_with (first | (go_at_call 83; refine (errNew_any _ _).mono ?_; rintro e w4 ⟨t9, p9, rfl, hb4⟩; have hC4 := hC1.below hb4))
        go_ret
        exact ⟨_, rfl, Ans.no (by simp [validF, hs, hA1, hA7]), hC4.bel⟩
      | true =>
        have hzb : (FloatKind.f64.format.order h.zc 0 != some .eq) = false := by rw [bne, hA7]; rfl
        have HZ := Lib.hid hA7
        cases hth : (FloatKind.f64.format.order h.thr 0 == some .eq) with
        | false =>
          have hthb : (FloatKind.f64.format.order h.thr 0 != some .eq) = true := by rw [bne, hth]; rfl
          go_wp2_with (first | (go_at_call 83; refine (errNew_any _ _).mono ?_; rintro e w4 ⟨t9, p9, rfl, hb4⟩; have hC4 := hC1.below hb4))
          go_ret
          exact ⟨_, rfl, Ans.no (by simp [validF, hs, hA1, HZ.out, hth]), hC4.bel⟩
        | true =>
          have hthb : (FloatKind.f64.format.order h.thr 0 != some .eq) = false := by rw [bne, hth]; rfl
          by_cases hng : h.neg = []
          · have hngl : ¬ (0 < h.neg.length) := by simp [hng]
            by_cases hdn : h.fdowns = []
            · have hdnl : ¬ (0 < h.fdowns.length) := by simp [hdn]
              have HG := Lib.hid hng
              have HD := Lib.hid hdn
              clear hng hdn
              cases hA5 : fk h.fups with
              | false =>
                go_wp2_with (first | (go_at_call 85; with_reducible (show Calls _ _ #[(.slice a3 h.fups.length c3), _, _] _ _); refine (checkFloats_any (.slice a3 h.fups.length c3) h.fups (w.heap.size + 1) 0 w.heap.size _ (p3.below hC1.bel (Nat.le_refl _)) hf.fups (he.below hC1.bel he.lt) hC1.k2 hC1.z2 (by omega) (by have := he.lt; omega)).mono ?_; rintro e w5 ⟨r5, rfl, hr5, hg5, ⟨q5, ht5⟩, hz5⟩; rw [hA5] at hr5; obtain ⟨t9, p9, rfl⟩ := Ans.noD hr5; have hC5 := hC1.ends hg5 (by omega)))
                go_ret
                exact ⟨_, rfl, Ans.no (by simp [validF, hs, hA1, HZ.out, hth, HG.out, HD.out, hA5]), hC5⟩
              | true =>
                go_wp2_with (first | (go_at_call 85; with_reducible (show Calls _ _ #[(.slice a3 h.fups.length c3), _, _] _ _); refine (checkFloats_any (.slice a3 h.fups.length c3) h.fups (w.heap.size + 1) 0 w.heap.size _ (p3.below hC1.bel (Nat.le_refl _)) hf.fups (he.below hC1.bel he.lt) hC1.k2 hC1.z2 (by omega) (by have := he.lt; omega)).mono ?_; rintro e w5 ⟨r5, rfl, hr5, hg5, ⟨q5, ht5⟩, hz5⟩; rw [hA5] at hr5; obtain rfl := Ans.yesD hr5; have hC5 := hC1.two hg5 ht5 hz5))
                go_ret
                exact ⟨_, rfl, Ans.yes (by simp [validF, hs, hA1, HZ.out, hth, HG.out, HD.out, hA5]) rfl, hC5.bel⟩
            · have hdnl : 0 < h.fdowns.length := List.length_pos_iff.2 hdn
              go_wp2_with (first | (go_at_call 83; refine (errNew_any _ _).mono ?_; rintro e w4 ⟨t9, p9, rfl, hb4⟩; have hC4 := hC1.below hb4))
              go_ret
              exact ⟨_, rfl, Ans.no (by simp [validF, hs, hA1, HZ.out, hth, hng, hdn]), hC4.bel⟩
          · have hngl : 0 < h.neg.length := List.length_pos_iff.2 hng
            go_wp2_with (first | (go_at_call 83; refine (errNew_any _ _).mono ?_; rintro e w4 ⟨t9, p9, rfl, hb4⟩; have hC4 := hC1.below hb4))
            go_ret
            exact ⟨_, rfl, Ans.no (by simp [validF, hs, hA1, HZ.out, hth, hng]), hC4.bel⟩
end Go.Proofs.YtbgkoapnejnfbaaDoor
