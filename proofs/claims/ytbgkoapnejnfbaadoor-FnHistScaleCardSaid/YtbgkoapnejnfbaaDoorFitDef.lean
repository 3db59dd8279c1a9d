/-
  Which histograms the laws speak of.
-/
import Derived.Test.YtbgkoapnejnfbaaDoorAppend
import Derived.Test.YtbgkoapnejnfbaaDoorHistValid
import Derived.Test.YtbgkoapnejnfbaaDoorRegion
import Derived.Deep.Cut
import Derived.Deep.DeepCutAuto
import Derived.IntWalk
namespace Go.Proofs.YtbgkoapnejnfbaaDoor
set_option linter.unusedSimpArgs false
set_option linter.unusedVariables false
open Go.RowKit
attribute [local go_sem ↓] Go.wp_at_zero Go.wp_at_succ

/-- bits of a number from 0 on that is not too great -/
def plain (x : Int) : Bool := decide (x < 9214364837600034816)
theorem plain_any (x : Int) (w : World) : Calls Tryd.prog 35 #[.int .u64 x] w fun e w' => e = .returned (.bool (plain x)) ∧ w = w' := by
  go_enter Tryd.func35, Tryd.ntmps35
  go_wp2
  go_ret
  refine ⟨eqb ?_, rfl⟩
  unfold plain
  rfl


theorem shr_most (s : Int) (h1 : -4 ≤ s) (h2 : s < 0) : ∃ most : Int, 0 ≤ most ∧ most ≤ 1000 ∧ ∀ (P : Program) (W : World), (Op.shift .shr .i64 1000 .i32 (wrap32 (-s))).run P W = .ok (.int .i64 most) W := by
  have hs : s = -4 ∨ s = -3 ∨ s = -2 ∨ s = -1 := by omega
  rcases hs with rfl | rfl | rfl | rfl
  · exact ⟨62, by decide, by decide, fun P W => by kernel_rfl⟩
  · exact ⟨125, by decide, by decide, fun P W => by kernel_rfl⟩
  · exact ⟨250, by decide, by decide, fun P W => by kernel_rfl⟩
  · exact ⟨500, by decide, by decide, fun P W => by kernel_rfl⟩

/-- a bucket within its bounds -/
def GoodB (fl cus : Bool) (most : Int) (nc : Nat) (x : Int × Int) : Prop :=
  -most ≤ x.1 ∧ x.1 ≤ most ∧ (fl = true → plain x.2 = true) ∧ (fl = false → x.2 ≤ 1125899906842624) ∧ (cus = true → 0 ≤ x.1 ∧ x.1 ≤ nc)

/-- bits of a number that is finite -/
def finite (x : Nat) : Bool := bits BinOp.and IntKind.u64 ((x : Int) / 4503599627370496) 2047 != 2047
theorem finite_any (x : Nat) (w : World) : Calls Tryd.prog 36 #[.int .u64 x] w fun e w' => e = .returned (.bool (finite x)) ∧ w = w' := by
  go_enter Tryd.func36, Tryd.ntmps36
  go_wp2
  go_ret
  exact ⟨rfl, rfl⟩
theorem flt_any (x : Nat) (w : World) : Calls Tryd.prog 37 #[.int .u64 x] w fun e w' => e = .returned (.float .f64 x) ∧ w = w' := by
  have hx := run94
  go_enter Tryd.func37, Tryd.ntmps37
  go_wp2
  go_ret
  exact ⟨rfl, rfl⟩
/-- a span within its bounds -/
def GoodS (x : Int × Int) : Prop := 1 ≤ x.2 ∧ x.2 ≤ 60 ∧ -2000 ≤ x.1 ∧ x.1 ≤ 2000
/-- a bound within its bounds -/
def GoodC (l : List Nat) (j : Nat) (hj : j < l.length) : Prop :=
  finite l[j] = true ∧ l[j] ≠ 9223372036854775808 ∧ (0 < j → (FloatKind.f64.format.order (l.getD (j - 1) 0) l[j] == some .lt) = true)

/-- a histogram of which the laws speak -/
structure Fit (fl : Bool) (h : Hist) : Prop where
  hint : h.hint ≤ 3
  exp : h.schema ≠ -53 → (-4 ≤ h.schema ∧ h.schema ≤ 8) ∧ h.cus.length = 0
  thr : plain h.thr = true
  sum : (h.sum : Int) ≠ 9218868437227405314
  lens : h.ups.length ≤ 60 ∧ h.downs.length ≤ 60 ∧ h.fups.length ≤ 60 ∧ h.fdowns.length ≤ 60 ∧ h.pos.length ≤ 60 ∧ h.neg.length ≤ 60 ∧ h.cus.length ≤ 60
  float : fl = true → h.ups.length + h.downs.length = 0 ∧ plain h.cnt = true ∧ plain h.zc = true
  int : fl = false → h.fups.length + h.fdowns.length = 0 ∧ (h.cnt : Int) ≤ 1125899906842624 ∧ (h.zc : Int) ≤ 1125899906842624
  pos : (bkts fl h.pos h.ups h.fups).2 = true
  neg : (bkts fl h.neg h.downs h.fdowns).2 = true
  bk : ∃ most : Int, most ≤ 1000 ∧ ∀ x ∈ (bkts fl h.pos h.ups h.fups).1 ++ (bkts fl h.neg h.downs h.fdowns).1, GoodB fl (h.schema == -53) most h.cus.length x
  bounds : ∀ j (hj : j < h.cus.length), GoodC h.cus j hj
  spans : ∀ x ∈ h.pos ++ h.neg, GoodS x
  custom : h.schema = -53 → h.neg.length = 0 ∧ (h.zc : Int) = 0 ∧ (h.thr : Int) = 0

def FitPost (fl : Bool) (h : Hist) (w : World) (e : Ending) (w' : World) : Prop := ∃ r, e = .returned (.bool r) ∧ (r = true → Fit fl h) ∧ Below w.heap.size w w'
theorem fitPost_no {fl : Bool} {h : Hist} {w w' : World} (hb : Below w.heap.size w w') : FitPost fl h w (.returned (.bool false)) w' := ⟨false, rfl, (fun hh => by cases hh), hb⟩
theorem fitPost_of {fl r : Bool} {h : Hist} {w w' : World} (hb : Below w.heap.size w w') (hr : r = true → Fit fl h) : FitPost fl h w (.returned (.bool r)) w' := ⟨r, rfl, hr, hb⟩
end Go.Proofs.YtbgkoapnejnfbaaDoor
