/-
  A float histogram that the call has made; products and quotients that may be no number.
-/
import Derived.Test.YtbgkoapnejnfbaaDoorHistValid
import Derived.Test.YtbgkoapnejnfbaaDoorBuckets
namespace Go.Proofs.YtbgkoapnejnfbaaDoor
set_option linter.unusedSimpArgs false
set_option linter.unusedVariables false
open Go.RowKit

/-- a world that may have been asked -/
def dr (c : Bool) (w : World) : World := if c = true then w.drew else w
theorem cell_dr (c : Bool) (w : World) (a : Addr) : (dr c w).cell? a = w.cell? a := by cases c <;> rfl
theorem frozen_dr (c : Bool) (w : World) (a : Addr) : (dr c w).frozen? a = w.frozen? a := by cases c <;> rfl
theorem heap_dr (c : Bool) (w : World) : (dr c w).heap = w.heap := by cases c <;> rfl
theorem below_dr {B : Nat} {w0 w : World} (h : Below B w0 w) (c : Bool) : Below B w0 (dr c w) := by cases c; exact h; exact h.drew

def isNaN (x : Nat) : Bool := !(FloatKind.f64.format.order x x == some .eq)
/-- a number's bits, those of 0 and of what is no number made one -/
def nb (x : Nat) : Nat := if x = 9223372036854775808 then 0 else if isNaN x = true then 9221120237041090561 else x
def scaleN (dv : Bool) (f x : Nat) : Option Nat := if dv = true then FloatKind.f64.format.div x f else FloatKind.f64.format.mul x f
def ScR (dv : Bool) (f x y : Nat) : Prop := match scaleN dv f x with | some r => y = r | none => isNaN y = true
def scn (dv : Bool) (f x : Nat) : Nat := match scaleN dv f x with | some r => nb r | none => 9221120237041090561
theorem ScR.nb {dv : Bool} {f x y : Nat} (h : ScR dv f x y) : nb y = scn dv f x := by
  unfold ScR at h
  unfold scn
  cases hs : scaleN dv f x with
  | some r => rw [hs] at h; rw [show y = r from h]
  | none =>
    rw [hs] at h
    have h : isNaN y = true := h
    have hy : y ≠ 9223372036854775808 := by rintro rfl; exact absurd h (by decide)
    unfold Go.Proofs.YtbgkoapnejnfbaaDoor.nb
    rw [if_neg hy, if_pos h]

theorem nan_cut (t : Nat) : isNaN ((t % 2) * 2 ^ 63 + 0x7ff0000000000000 + 1 + (t / 2) % (2 ^ 52 - 1)) = true := by
  have e1 : FloatKind.f64.format.signWeight = 9223372036854775808 := by decide
  have e2 : FloatKind.f64.format.binade = 4503599627370496 := by decide
  have e3 : FloatKind.f64.format.infRung = 9218868437227405312 := by decide
  obtain ⟨m, hm, hw⟩ : ∃ m, m < 4503599627370495 ∧ (t % 2) * 2 ^ 63 + 0x7ff0000000000000 + 1 + (t / 2) % (2 ^ 52 - 1) = (t % 2) * 9223372036854775808 + (9218868437227405313 + m) := ⟨t / 2 % (2 ^ 52 - 1), by omega, by omega⟩
  rw [hw]
  have hmod : ((t % 2) * 9223372036854775808 + (9218868437227405313 + m)) % 9223372036854775808 = 9218868437227405313 + m := by omega
  obtain ⟨s, fr, hr⟩ : ∃ s fr, FloatKind.f64.format.read ((t % 2) * 9223372036854775808 + (9218868437227405313 + m)) = .nan s fr := by
    unfold Ieee.Format.read
    rw [e1, e2, e3]
    simp only [hmod]
    rw [if_neg (by omega), if_neg (by omega), if_neg (by omega)]
    exact ⟨_, _, rfl⟩
  unfold isNaN Ieee.Format.order
  rw [hr]
  rfl

theorem run_mul {P : Program} (t : TypeId) (x f : Nat) (W : World) : ∃ r, ScR false f x r ∧ (binOp .mul t (.float .f64 x) (.float .f64 f)).run P W = .ok (.float .f64 r) (dr (scaleN false f x).isNone W) := by
  have hs : scaleN false f x = FloatKind.f64.format.mul x f := rfl
  unfold ScR
  cases h : FloatKind.f64.format.mul x f with
  | some r => rw [hs, h]; exact ⟨r, rfl, run_float_arith W .mul t .f64 x f r h⟩
  | none =>
    rw [hs, h]
    have hf : ∀ b : Nat, (Question.nanBits .f64 x f).forced = false := fun _ => rfl
    simp only [binOp, Op.floatArith, h, Sem.run_bind, Sem.run_pure, Result.andThen_ok, run_choose_drew, hf 0]
    exact ⟨_, nan_cut _, rfl⟩
theorem run_quo {P : Program} (t : TypeId) (x f : Nat) (W : World) : ∃ r, ScR true f x r ∧ (binOp .quo t (.float .f64 x) (.float .f64 f)).run P W = .ok (.float .f64 r) (dr (scaleN true f x).isNone W) := by
  have hs : scaleN true f x = FloatKind.f64.format.div x f := rfl
  unfold ScR
  cases h : FloatKind.f64.format.div x f with
  | some r => rw [hs, h]; exact ⟨r, rfl, run_float_arith W .quo t .f64 x f r h⟩
  | none =>
    rw [hs, h]
    have hf : ∀ b : Nat, (Question.nanBits .f64 x f).forced = false := fun _ => rfl
    simp only [binOp, Op.floatArith, h, Sem.run_bind, Sem.run_pure, Result.andThen_ok, run_choose_drew, hf 0]
    exact ⟨_, nan_cut _, rfl⟩

theorem heap_set {w : World} {g k : Nat} {u : Value} {cs : Array Value} {t : TypeId} {fr : Nat × Nat} (h : w.heap[g]? = some (.cells cs t fr)) : (w.setCell ⟨g, k, none⟩ u).heap[g]? = some (.cells (cs.setIfInBounds k u) t fr) := by
  simp [World.setCell, Array.getElem?_modify, h]
theorem size_set (w : World) (a : Addr) (u : Value) : (w.setCell a u).heap.size = w.heap.size := by simp [World.setCell]

theorem own_set {w : World} {base size n g cap : Nat} {e : TypeId} {xs : List Value} (h : w.ownsRow base e size (.slice (some ⟨g, 0, none⟩) n cap) n xs) (k : Nat) (u : Value) : (w.setCell ⟨g, k, none⟩ u).ownsRow base e size (.slice (some ⟨g, 0, none⟩) n cap) n (xs.set k u) := by
  obtain ⟨h1, ⟨h2, _⟩ | ⟨g', cap', cur, e', k1, k2, k3, k4, k5, k6⟩⟩ := h
  · cases h2
  · cases e'
    refine ⟨by simpa using h1, .inr ⟨g, cap, cur.setIfInBounds k u, rfl, k1, heap_set k2, k3, k4, by simpa using k5, ?_⟩⟩
    rw [Array.toList_setIfInBounds, ← k6]
    exact (List.take_set).symm ▸ rfl
theorem own_frozen {w : World} {base size n g cap : Nat} {e : TypeId} {xs : List Value} (h : w.ownsRow base e size (.slice (some ⟨g, 0, none⟩) n cap) n xs) (k : Nat) : w.frozen? ⟨g, k, none⟩ = false := by
  obtain ⟨_, ⟨h2, _⟩ | ⟨g', cap', cur, e', _, k2, _⟩⟩ := h
  · cases h2
  · cases e'
    simp [World.frozen?, k2]

theorem OwnIn.above {w : World} {lo hi size n : Nat} {e : TypeId} {v : Value} {xs : List Value} (h : OwnIn w lo hi e size v n xs) {a : Addr} (ha : a.block < lo) (u : Value) : OwnIn (w.setCell a u) lo hi e size v n xs :=
  ⟨h.le, ownsRow_setCell_below h.own ha u, h.top⟩
theorem OwnIn.under {w : World} {lo hi size n : Nat} {e : TypeId} {v : Value} {xs : List Value} (h : OwnIn w lo hi e size v n xs) {a : Addr} (ha : hi ≤ a.block) (u : Value) : OwnIn (w.setCell a u) lo hi e size v n xs :=
  h.below ((Below.refl hi w).setCell ha u) (Nat.le_refl _)
theorem OwnIn.dr {w : World} {lo hi size n : Nat} {e : TypeId} {v : Value} {xs : List Value} (h : OwnIn w lo hi e size v n xs) (c : Bool) : OwnIn (dr c w) lo hi e size v n xs :=
  h.below (below_dr (Below.refl hi w) c) (Nat.le_refl _)

/-- a float histogram that the call has made: its block, and what its slices hold -/
structure FH (w : World) (lo b : Nat) (x1 x2 x3 x4 x5 : Value) (h : Hist) : Prop where
  cells : w.heap[b]? = some (.cells #[.int .u8 h.hint, .int .i32 h.schema, .float .f64 h.thr, .float .f64 h.zc, .float .f64 h.cnt, .float .f64 h.sum, x1, x2, x3, x4, x5] 89 (0, 0))
  own : Own5 w lo b 67 x1 x2 x3 x4 x5 h.pos h.neg (h.fups.map (Value.float .f64)) (h.fdowns.map (Value.float .f64)) h.cus

/-- a histogram with other counts -/
def hwx (h : Hist) (z c s : Nat) (us ds : List Nat) : Hist := ⟨h.hint, h.schema, h.thr, s, z, c, h.pos, h.neg, h.ups, h.downs, us, ds, h.cus⟩
variable {w : World} {lo b : Nat} {x1 x2 x3 x4 x5 : Value} {h : Hist}
theorem FH.dr (f : FH w lo b x1 x2 x3 x4 x5 h) (c : Bool) : FH (dr c w) lo b x1 x2 x3 x4 x5 h := by
  obtain ⟨f1, ⟨s1, s2, s3, s4, o1, o2, o3, o4, o5⟩, f3⟩ := f
  exact ⟨by rw [heap_dr]; exact f1, ⟨s1, s2, s3, s4, o1.dr c, o2.dr c, o3.dr c, o4.dr c, o5.dr c⟩, f3⟩
theorem FH.frozen (f : FH w lo b x1 x2 x3 x4 x5 h) (k : Nat) : w.frozen? ⟨b, k, none⟩ = false := by simp [World.frozen?, f.cells]
theorem FH.lt (f : FH w lo b x1 x2 x3 x4 x5 h) : b < w.heap.size := (Array.getElem?_eq_some_iff.1 f.cells).1
theorem FH.lo_le (f : FH w lo b x1 x2 x3 x4 x5 h) : lo ≤ b := by
  obtain ⟨_, ⟨s1, s2, s3, s4, o1, o2, o3, o4, o5⟩, _⟩ := f
  have := o1.le; have := o2.le; have := o3.le; have := o4.le; have := o5.le
  omega
theorem FH.setb (f : FH w lo b x1 x2 x3 x4 x5 h) (k : Nat) (u : Value) (h' : Hist) (hc : (#[.int .u8 h.hint, .int .i32 h.schema, .float .f64 h.thr, .float .f64 h.zc, .float .f64 h.cnt, .float .f64 h.sum, x1, x2, x3, x4, x5] : Array Value).setIfInBounds k u = #[.int .u8 h'.hint, .int .i32 h'.schema, .float .f64 h'.thr, .float .f64 h'.zc, .float .f64 h'.cnt, .float .f64 h'.sum, x1, x2, x3, x4, x5])
    (e1 : h'.pos = h.pos) (e2 : h'.neg = h.neg) (e3 : h'.fups = h.fups) (e4 : h'.fdowns = h.fdowns) (e5 : h'.cus = h.cus) : FH (w.setCell ⟨b, k, none⟩ u) lo b x1 x2 x3 x4 x5 h' := by
  obtain ⟨f1, ⟨s1, s2, s3, s4, o1, o2, o3, o4, o5⟩, f3⟩ := f
  have l2 := o2.le; have l3 := o3.le; have l4 := o4.le; have l5 := o5.le
  refine ⟨?_, ⟨s1, s2, s3, s4, ?_, ?_, ?_, ?_, ?_⟩, by rw [e5]; exact f3⟩
  · rw [← hc]; exact heap_set f1
  · rw [e1]; exact o1.under (by show s1 ≤ b; omega) u
  · rw [e2]; exact o2.under (by show s2 ≤ b; omega) u
  · rw [e3]; exact o3.under (by show s3 ≤ b; omega) u
  · rw [e4]; exact o4.under (by show s4 ≤ b; omega) u
  · rw [e5]; exact o5.under (by show b ≤ b; omega) u
theorem FH.zc (f : FH w lo b x1 x2 x3 x4 x5 h) (u : Nat) : FH (w.setCell ⟨b, 3, none⟩ (.float .f64 u)) lo b x1 x2 x3 x4 x5 { h with zc := u } := f.setb 3 _ _ rfl rfl rfl rfl rfl rfl
theorem FH.cnt (f : FH w lo b x1 x2 x3 x4 x5 h) (u : Nat) : FH (w.setCell ⟨b, 4, none⟩ (.float .f64 u)) lo b x1 x2 x3 x4 x5 { h with cnt := u } := f.setb 4 _ _ rfl rfl rfl rfl rfl rfl
theorem FH.sum (f : FH w lo b x1 x2 x3 x4 x5 h) (u : Nat) : FH (w.setCell ⟨b, 5, none⟩ (.float .f64 u)) lo b x1 x2 x3 x4 x5 { h with sum := u } := f.setb 5 _ _ rfl rfl rfl rfl rfl rfl

theorem FH.at3 {n cap : Nat} {ao : Option Addr} (f : FH w lo b x1 x2 (.slice ao n cap) x4 x5 h) {k : Nat} (hk : k < h.fups.length) :
    ∃ g, ao = some ⟨g, 0, none⟩ ∧ n = h.fups.length ∧ lo ≤ g ∧ w.cell? ⟨g, k, none⟩ = some (.float .f64 (h.fups.getD k 0)) ∧ w.frozen? ⟨g, k, none⟩ = false ∧ ∀ u, FH (w.setCell ⟨g, k, none⟩ (.float .f64 u)) lo b x1 x2 (.slice ao n cap) x4 x5 { h with fups := h.fups.set k u } := by
  obtain ⟨f1, ⟨s1, s2, s3, s4, o1, o2, o3, o4, o5⟩, f3⟩ := f
  have l1 := o1.le; have l2 := o2.le; have l3 := o3.le; have l4 := o4.le; have l5 := o5.le
  have hl := o3.own
  rw [List.length_map] at hl
  obtain ⟨hl1, ⟨h2, h3⟩ | ⟨g, cap', cur, e', k1, k2, k3, k4, k5, k6⟩⟩ := id hl
  · omega
  · cases e'
    have hg : g < s3 := o3.top g rfl
    have hc := (Sl.own hl).at_ (by omega)
    obtain ⟨bb, off, e, _, _, hc⟩ := hc
    cases e
    refine ⟨g, rfl, rfl, by omega, ?_, own_frozen hl k, fun u => ⟨?_, ⟨s1, s2, s3, s4, o1.under (by show s1 ≤ g; omega) _, o2.under (by show s2 ≤ g; omega) _, ?_, o4.above (by show g < s3; omega) _, o5.above (by show g < s4; omega) _⟩, f3⟩⟩
    · have := hc k (by omega)
      rw [Nat.zero_add] at this
      rw [this, List.getD_eq_getElem?_getD, List.getElem?_map, List.getD_eq_getElem?_getD, List.getElem?_eq_getElem hk]
      rfl
    · exact (Below.heap_setCell _ _ _ _ (by show b ≠ g; omega)).trans f1
    · refine ⟨o3.le, ?_, o3.top⟩
      have := own_set hl k (.float .f64 u)
      rw [← List.map_set] at this
      rw [List.length_map, List.length_set]
      exact this

theorem FH.at4 {n cap : Nat} {ao : Option Addr} (f : FH w lo b x1 x2 x3 (.slice ao n cap) x5 h) {k : Nat} (hk : k < h.fdowns.length) :
    ∃ g, ao = some ⟨g, 0, none⟩ ∧ n = h.fdowns.length ∧ lo ≤ g ∧ w.cell? ⟨g, k, none⟩ = some (.float .f64 (h.fdowns.getD k 0)) ∧ w.frozen? ⟨g, k, none⟩ = false ∧ ∀ u, FH (w.setCell ⟨g, k, none⟩ (.float .f64 u)) lo b x1 x2 x3 (.slice ao n cap) x5 { h with fdowns := h.fdowns.set k u } := by
  obtain ⟨f1, ⟨s1, s2, s3, s4, o1, o2, o3, o4, o5⟩, f3⟩ := f
  have l1 := o1.le; have l2 := o2.le; have l3 := o3.le; have l4 := o4.le; have l5 := o5.le
  have hl := o4.own
  rw [List.length_map] at hl
  obtain ⟨hl1, ⟨h2, h3⟩ | ⟨g, cap', cur, e', k1, k2, k3, k4, k5, k6⟩⟩ := id hl
  · omega
  · cases e'
    have hg : g < s4 := o4.top g rfl
    have hc := (Sl.own hl).at_ (by omega)
    obtain ⟨bb, off, e, _, _, hc⟩ := hc
    cases e
    refine ⟨g, rfl, rfl, by omega, ?_, own_frozen hl k, fun u => ⟨?_, ⟨s1, s2, s3, s4, o1.under (by show s1 ≤ g; omega) _, o2.under (by show s2 ≤ g; omega) _, o3.under (by show s3 ≤ g; omega) _, ?_, o5.above (by show g < s4; omega) _⟩, f3⟩⟩
    · have := hc k (by omega)
      rw [Nat.zero_add] at this
      rw [this, List.getD_eq_getElem?_getD, List.getElem?_map, List.getD_eq_getElem?_getD, List.getElem?_eq_getElem hk]
      rfl
    · exact (Below.heap_setCell _ _ _ _ (by show b ≠ g; omega)).trans f1
    · refine ⟨o4.le, ?_, o4.top⟩
      have := own_set hl k (.float .f64 u)
      rw [← List.map_set] at this
      rw [List.length_map, List.length_set]
      exact this

theorem FH.forms (f : FH w lo b x1 x2 x3 x4 x5 h) : (∃ a c, x3 = .slice a h.fups.length c) ∧ (∃ a c, x4 = .slice a h.fdowns.length c) := by
  obtain ⟨f1, ⟨s1, s2, s3, s4, o1, o2, o3, o4, o5⟩, f3⟩ := f
  have h3 := o3.floats.form
  have h4 := o4.floats.form
  obtain ⟨a, c, rfl, _⟩ := h3
  obtain ⟨a', c', rfl, _⟩ := h4
  exact ⟨⟨a, c, rfl⟩, ⟨a', c', rfl⟩⟩

/-- a histogram with its counts and its sum multiplied, or divided -/
structure Scl (dv : Bool) (f : Nat) (h h' : Hist) : Prop where
  zc : ScR dv f h.zc h'.zc
  cnt : ScR dv f h.cnt h'.cnt
  sum : ScR dv f h.sum h'.sum
  lu : h'.fups.length = h.fups.length
  ld : h'.fdowns.length = h.fdowns.length
  us : ∀ j, j < h.fups.length → ScR dv f (h.fups.getD j 0) (h'.fups.getD j 0)
  ds : ∀ j, j < h.fdowns.length → ScR dv f (h.fdowns.getD j 0) (h'.fdowns.getD j 0)
  ups : h'.ups = h.ups
  downs : h'.downs = h.downs
  same : h'.hint = h.hint ∧ h'.schema = h.schema ∧ h'.thr = h.thr ∧ h'.pos = h.pos ∧ h'.neg = h.neg ∧ h'.cus = h.cus
end Go.Proofs.YtbgkoapnejnfbaaDoor
