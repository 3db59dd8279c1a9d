/-
  What impl.HistValid answers.
-/
import Derived.Test.YtbgkoapnejnfbaaDoorValid
import Derived.Test.YtbgkoapnejnfbaaDoorSafe
import Derived.Test.YtbgkoapnejnfbaaDoorOpen
namespace Go.Proofs.YtbgkoapnejnfbaaDoor
set_option linter.unusedSimpArgs false
set_option linter.unusedVariables false
open Go.RowKit


theorem cells_of_block {w : World} {b : Nat} {cs : Array Value} {t : TypeId} {fr : Nat × Nat} (h : w.heap[b]? = some (.cells cs t fr)) (i : Nat) : w.cell? ⟨b, i, none⟩ = cs[i]? := by
  simp [World.cell?, h]

/-- the cells of one block, kept -/
theorem keep13 {w w' : World} {B b : Nat} (hb : Below B w w') (hlt : b < B) {u0 u1 u2 u3 u4 u5 u6 u7 u8 u9 u10 u11 u12 : Value}
    (h : w.cell? ⟨b, 0, none⟩ = some u0 ∧ w.cell? ⟨b, 1, none⟩ = some u1 ∧ w.cell? ⟨b, 2, none⟩ = some u2 ∧ w.cell? ⟨b, 3, none⟩ = some u3 ∧ w.cell? ⟨b, 4, none⟩ = some u4 ∧ w.cell? ⟨b, 5, none⟩ = some u5 ∧ w.cell? ⟨b, 6, none⟩ = some u6 ∧ w.cell? ⟨b, 7, none⟩ = some u7 ∧ w.cell? ⟨b, 8, none⟩ = some u8 ∧ w.cell? ⟨b, 9, none⟩ = some u9 ∧ w.cell? ⟨b, 10, none⟩ = some u10 ∧ w.cell? ⟨b, 11, none⟩ = some u11 ∧ w.cell? ⟨b, 12, none⟩ = some u12) :
    w'.cell? ⟨b, 0, none⟩ = some u0 ∧ w'.cell? ⟨b, 1, none⟩ = some u1 ∧ w'.cell? ⟨b, 2, none⟩ = some u2 ∧ w'.cell? ⟨b, 3, none⟩ = some u3 ∧ w'.cell? ⟨b, 4, none⟩ = some u4 ∧ w'.cell? ⟨b, 5, none⟩ = some u5 ∧ w'.cell? ⟨b, 6, none⟩ = some u6 ∧ w'.cell? ⟨b, 7, none⟩ = some u7 ∧ w'.cell? ⟨b, 8, none⟩ = some u8 ∧ w'.cell? ⟨b, 9, none⟩ = some u9 ∧ w'.cell? ⟨b, 10, none⟩ = some u10 ∧ w'.cell? ⟨b, 11, none⟩ = some u11 ∧ w'.cell? ⟨b, 12, none⟩ = some u12 :=
  ⟨(hb.cell (p := ⟨b, 0, none⟩) hlt).trans h.1, (hb.cell (p := ⟨b, 1, none⟩) hlt).trans h.2.1, (hb.cell (p := ⟨b, 2, none⟩) hlt).trans h.2.2.1, (hb.cell (p := ⟨b, 3, none⟩) hlt).trans h.2.2.2.1, (hb.cell (p := ⟨b, 4, none⟩) hlt).trans h.2.2.2.2.1, (hb.cell (p := ⟨b, 5, none⟩) hlt).trans h.2.2.2.2.2.1, (hb.cell (p := ⟨b, 6, none⟩) hlt).trans h.2.2.2.2.2.2.1, (hb.cell (p := ⟨b, 7, none⟩) hlt).trans h.2.2.2.2.2.2.2.1, (hb.cell (p := ⟨b, 8, none⟩) hlt).trans h.2.2.2.2.2.2.2.2.1, (hb.cell (p := ⟨b, 9, none⟩) hlt).trans h.2.2.2.2.2.2.2.2.2.1, (hb.cell (p := ⟨b, 10, none⟩) hlt).trans h.2.2.2.2.2.2.2.2.2.2.1, (hb.cell (p := ⟨b, 11, none⟩) hlt).trans h.2.2.2.2.2.2.2.2.2.2.2.1, (hb.cell (p := ⟨b, 12, none⟩) hlt).trans h.2.2.2.2.2.2.2.2.2.2.2.2⟩

theorem three (w : World) (cs : Array Value) (u v : Value) (t1 t2 t3 : TypeId) :
    (((w.alloc (.cells cs t1)).alloc (.cells #[u] t2)).alloc (.cells #[v] t3)).heap[w.heap.size]? = some (.cells cs t1) ∧
    (((w.alloc (.cells cs t1)).alloc (.cells #[u] t2)).alloc (.cells #[v] t3)).cell? ⟨w.heap.size + 1, 0, none⟩ = some u ∧
    (((w.alloc (.cells cs t1)).alloc (.cells #[u] t2)).alloc (.cells #[v] t3)).cell? ⟨w.heap.size + 1 + 1, 0, none⟩ = some v ∧
    (((w.alloc (.cells cs t1)).alloc (.cells #[u] t2)).alloc (.cells #[v] t3)).frozen? ⟨w.heap.size + 1 + 1, 0, none⟩ = false ∧
    (((w.alloc (.cells cs t1)).alloc (.cells #[u] t2)).alloc (.cells #[v] t3)).heap.size = w.heap.size + 3 := by
  have h1 : ∀ o : Obj, (w.alloc o).heap.size = w.heap.size + 1 := fun o => by simp
  have h2 : ∀ o p : Obj, ((w.alloc o).alloc p).heap.size = w.heap.size + 1 + 1 := fun o p => by simp
  have b1 := ((Below.refl (w.heap.size + 1) (w.alloc (.cells cs t1))).alloc (by rw [h1]; omega) (.cells #[u] t2)).alloc (by rw [h2]; omega) (.cells #[v] t3)
  have b2 := (Below.refl (w.heap.size + 1 + 1) ((w.alloc (.cells cs t1)).alloc (.cells #[u] t2))).alloc (by rw [h2]; omega) (.cells #[v] t3)
  have n1 := heap_alloc_new w (.cells cs t1)
  have n2 := heap_alloc_new (w.alloc (.cells cs t1)) (.cells #[u] t2)
  have n3 := heap_alloc_new ((w.alloc (.cells cs t1)).alloc (.cells #[u] t2)) (.cells #[v] t3)
  rw [h1] at n2
  rw [h2] at n3
  refine ⟨(b1.block _ (by omega)).trans n1, ?_, ?_, ?_, by simp⟩
  · exact cells_of_block ((b2.block _ (by omega)).trans n2) 0
  · exact cells_of_block n3 0
  · unfold World.frozen?; rw [n3]; rfl

theorem HistAt.mono {w : World} {B B' : Nat} {v1 v2 v3 v4 v5 v6 v7 : Value} {h : Hist} (ha : HistAt w B v1 v2 v3 v4 v5 v6 v7 h) (hB : B ≤ B') (hw : B' ≤ w.heap.size) : HistAt w B' v1 v2 v3 v4 v5 v6 v7 h :=
  ⟨ha.pos.mono hB hw, ha.neg.mono hB hw, ha.ups.mono hB hw, ha.downs.mono hB hw, ha.fups.mono hB hw, ha.fdowns.mono hB hw, ha.cus.mono hB hw⟩

def validH (fl : Bool) (h : Hist) : Bool := if fl = true then validF h else validI h

theorem OwnIn.pairs {w : World} {lo hi n : Nat} {e : TypeId} {v : Value} {l : List (Int × Int)} (h : OwnIn w lo hi e 2 v n (flat .i32 .u32 l)) : Pairs w w.heap.size .i32 .u32 v l := Pairs.own h.own
theorem OwnIn.ints {w : World} {lo hi n : Nat} {e : TypeId} {v : Value} {l : List Int} (h : OwnIn w lo hi e 1 v n (l.map (Value.int .i64))) : Ints w w.heap.size .i64 v l := Ints.own h.own
theorem OwnIn.floats {w : World} {lo hi n : Nat} {e : TypeId} {v : Value} {l : List Nat} (h : OwnIn w lo hi e 1 v n (l.map (Value.float .f64))) : Floats w w.heap.size v l := Floats.own h.own

set_option maxRecDepth 100000 in
set_option maxHeartbeats 4000000 in
/-- the closure -/
theorem histValid1_any (pf ph pv : Nat) (fl old : Bool) (v1 v2 v3 v4 v5 v6 v7 : Value) (h : Hist) (w : World) (hcf : w.cell? ⟨pf, 0, none⟩ = some (.bool fl)) (hch : w.cell? ⟨ph, 0, none⟩ = some (.int .u8 h.hint) ∧ w.cell? ⟨ph, 1, none⟩ = some (.int .i32 h.schema) ∧ w.cell? ⟨ph, 2, none⟩ = some (.int .u64 h.thr) ∧ w.cell? ⟨ph, 3, none⟩ = some (.int .u64 h.sum) ∧ w.cell? ⟨ph, 4, none⟩ = some (.int .u64 h.zc) ∧ w.cell? ⟨ph, 5, none⟩ = some (.int .u64 h.cnt) ∧ w.cell? ⟨ph, 6, none⟩ = some (v1) ∧ w.cell? ⟨ph, 7, none⟩ = some (v2) ∧ w.cell? ⟨ph, 8, none⟩ = some (v3) ∧ w.cell? ⟨ph, 9, none⟩ = some (v4) ∧ w.cell? ⟨ph, 10, none⟩ = some (v5) ∧ w.cell? ⟨ph, 11, none⟩ = some (v6) ∧ w.cell? ⟨ph, 12, none⟩ = some (v7)) (hcv : w.cell? ⟨pv, 0, none⟩ = some (.bool old)) (hzv : w.frozen? ⟨pv, 0, none⟩ = false)
    (ha : HistAt w w.heap.size v1 v2 v3 v4 v5 v6 v7 h) (hf : Fits h) (hw : Wf h) (he : Errs w) :
    Calls Tryd.prog 30 #[.pointer (some ⟨pf, 0, none⟩), .pointer (some ⟨ph, 0, none⟩), .pointer (some ⟨pv, 0, none⟩)] w fun e w' => e = .returned (.tuple #[]) ∧ ∃ w1, Below w.heap.size w w1 ∧ w' = w1.setCell ⟨pv, 0, none⟩ (.bool (validH fl h)) := by
  obtain ⟨a1, c1, rfl, f11, f12⟩ := ha.pos.form
  obtain ⟨a2, c2, rfl, f21, f22⟩ := ha.neg.form
  obtain ⟨a3, c3, rfl, f31, f32⟩ := ha.ups.form
  obtain ⟨a4, c4, rfl, f41, f42⟩ := ha.downs.form
  obtain ⟨a5, c5, rfl, f51, f52⟩ := ha.fups.form
  obtain ⟨a6, c6, rfl, f61, f62⟩ := ha.fdowns.form
  obtain ⟨a7, c7, rfl, f71, f72⟩ := ha.cus.form
  simp only [List.length_map] at ha f51 f61 f71
  have hlt : pv < w.heap.size := (lt_of_cell hcv).1
  have HZ := Lib.hid hzv
  have HV := Lib.hid hcv
  go_enter Tryd.func30, Tryd.ntmps30
  cases fl with
  | false =>
    cases hv : validI h with
    | false =>
      go_wp2_with (first
        | (go_at_call 33; refine (whole_any _ _ _ _ _ _ _ h w ha hf).mono ?_; rintro e w1 ⟨b, y1, y2, y3, y4, y5, rfl, hb, ⟨⟨s1, s2, s3, s4, o1, o2, o3, o4, o5⟩, n5⟩, hbw⟩)
        | (go_at_call 34; refine (validI_any b y1 y2 y3 y4 y5 h w1 ⟨cells_of_block hb 0, cells_of_block hb 1, cells_of_block hb 2, cells_of_block hb 3, cells_of_block hb 4, cells_of_block hb 5, cells_of_block hb 6, cells_of_block hb 7, cells_of_block hb 8, cells_of_block hb 9, cells_of_block hb 10⟩ o1.pairs o2.pairs o3.ints o4.ints o5.floats n5 hf hw (he.below hbw he.lt) (Array.getElem?_eq_some_iff.1 hb).1).mono ?_; rintro e w2 ⟨r, rfl, hr, hb2⟩; rw [hv] at hr; obtain ⟨t9, p9, rfl⟩ := Ans.noD hr; have hb3 := hbw.trans (hb2.mono hbw.size); have hv2 := (hb3.cell (p := ⟨pv, 0, none⟩) hlt).trans HV.out; have hz2 := (hb3.frozen (p := ⟨pv, 0, none⟩) hlt).trans HZ.out))
      go_end0
      exact ⟨rfl, w2, hb3, by simp [validH, hv]⟩
    | true =>
      go_wp2_with (first
        | (go_at_call 33; refine (whole_any _ _ _ _ _ _ _ h w ha hf).mono ?_; rintro e w1 ⟨b, y1, y2, y3, y4, y5, rfl, hb, ⟨⟨s1, s2, s3, s4, o1, o2, o3, o4, o5⟩, n5⟩, hbw⟩)
        | (go_at_call 34; refine (validI_any b y1 y2 y3 y4 y5 h w1 ⟨cells_of_block hb 0, cells_of_block hb 1, cells_of_block hb 2, cells_of_block hb 3, cells_of_block hb 4, cells_of_block hb 5, cells_of_block hb 6, cells_of_block hb 7, cells_of_block hb 8, cells_of_block hb 9, cells_of_block hb 10⟩ o1.pairs o2.pairs o3.ints o4.ints o5.floats n5 hf hw (he.below hbw he.lt) (Array.getElem?_eq_some_iff.1 hb).1).mono ?_; rintro e w2 ⟨r, rfl, hr, hb2⟩; rw [hv] at hr; obtain rfl := Ans.yesD hr; have hb3 := hbw.trans (hb2.mono hbw.size); have hv2 := (hb3.cell (p := ⟨pv, 0, none⟩) hlt).trans HV.out; have hz2 := (hb3.frozen (p := ⟨pv, 0, none⟩) hlt).trans HZ.out))
      go_end0
      exact ⟨rfl, w2, hb3, by simp [validH, hv]⟩
  | true =>
    cases hv : validF h with
    | false =>
      go_wp2_with (first
        | (go_at_call 31; refine (broken_any _ _ _ _ _ _ _ h w ha hf).mono ?_; rintro e w1 ⟨b, y1, y2, y3, y4, y5, rfl, hb, ⟨⟨s1, s2, s3, s4, o1, o2, o3, o4, o5⟩, n5⟩, hbw⟩)
        | (go_at_call 32; refine (validF_any b y1 y2 y3 y4 y5 h w1 ⟨cells_of_block hb 0, cells_of_block hb 1, cells_of_block hb 2, cells_of_block hb 3, cells_of_block hb 4, cells_of_block hb 5, cells_of_block hb 6, cells_of_block hb 7, cells_of_block hb 8, cells_of_block hb 9, cells_of_block hb 10⟩ o1.pairs o2.pairs o3.floats o4.floats o5.floats n5 hf hw (he.below hbw he.lt) (Array.getElem?_eq_some_iff.1 hb).1).mono ?_; rintro e w2 ⟨r, rfl, hr, hb2⟩; rw [hv] at hr; obtain ⟨t9, p9, rfl⟩ := Ans.noD hr; have hb3 := hbw.trans (hb2.mono hbw.size); have hv2 := (hb3.cell (p := ⟨pv, 0, none⟩) hlt).trans HV.out; have hz2 := (hb3.frozen (p := ⟨pv, 0, none⟩) hlt).trans HZ.out))
      go_end0
      exact ⟨rfl, w2, hb3, by simp [validH, hv]⟩
    | true =>
      go_wp2_with (first
        | (go_at_call 31; refine (broken_any _ _ _ _ _ _ _ h w ha hf).mono ?_; rintro e w1 ⟨b, y1, y2, y3, y4, y5, rfl, hb, ⟨⟨s1, s2, s3, s4, o1, o2, o3, o4, o5⟩, n5⟩, hbw⟩)
        | (go_at_call 32; refine (validF_any b y1 y2 y3 y4 y5 h w1 ⟨cells_of_block hb 0, cells_of_block hb 1, cells_of_block hb 2, cells_of_block hb 3, cells_of_block hb 4, cells_of_block hb 5, cells_of_block hb 6, cells_of_block hb 7, cells_of_block hb 8, cells_of_block hb 9, cells_of_block hb 10⟩ o1.pairs o2.pairs o3.floats o4.floats o5.floats n5 hf hw (he.below hbw he.lt) (Array.getElem?_eq_some_iff.1 hb).1).mono ?_; rintro e w2 ⟨r, rfl, hr, hb2⟩; rw [hv] at hr; obtain rfl := Ans.yesD hr; have hb3 := hbw.trans (hb2.mono hbw.size); have hv2 := (hb3.cell (p := ⟨pv, 0, none⟩) hlt).trans HV.out; have hz2 := (hb3.frozen (p := ⟨pv, 0, none⟩) hlt).trans HZ.out))
      go_end0
      exact ⟨rfl, w2, hb3, by simp [validH, hv]⟩

set_option maxRecDepth 100000 in
set_option maxHeartbeats 4000000 in
theorem histValid_any (fl : Bool) (v1 v2 v3 v4 v5 v6 v7 : Value) (h : Hist) (w : World) (ha : HistAt w w.heap.size v1 v2 v3 v4 v5 v6 v7 h) (hf : Fits h) (hw : Wf h) (he : Errs w) :
    Calls Tryd.prog 12 #[.agg (histCells h v1 v2 v3 v4 v5 v6 v7), .bool fl] w fun e w' => e = .returned (.bool (validH fl h)) ∧ Below w.heap.size w w' := by
  obtain ⟨a1, c1, rfl, f11, f12⟩ := ha.pos.form
  obtain ⟨a2, c2, rfl, f21, f22⟩ := ha.neg.form
  obtain ⟨a3, c3, rfl, f31, f32⟩ := ha.ups.form
  obtain ⟨a4, c4, rfl, f41, f42⟩ := ha.downs.form
  obtain ⟨a5, c5, rfl, f51, f52⟩ := ha.fups.form
  obtain ⟨a6, c6, rfl, f61, f62⟩ := ha.fdowns.form
  obtain ⟨a7, c7, rfl, f71, f72⟩ := ha.cus.form
  have hmf : ∀ (fn : Fn) (first cap : Array Value) (w : World), (Instr.makeFunc fn first cap).run Tryd.prog w = .ok (.func fn first cap) w := fun _ _ _ _ => rfl
  have hcl : ∀ (caps : Array Value) (w : World), (callFunc 30 caps).run Tryd.prog w = .ok (.enter 30 caps) w := fun caps w => by simp [callFunc, Tryd.func30, Tryd.f30]
  have hB3 : Below w.heap.size w (((w.alloc (.cells (histCells h (.slice a1 h.pos.length c1) (.slice a2 h.neg.length c2) (.slice a3 h.ups.length c3) (.slice a4 h.downs.length c4) (.slice a5 (h.fups.map Int.ofNat).length c5) (.slice a6 (h.fdowns.map Int.ofNat).length c6) (.slice a7 (h.cus.map Int.ofNat).length c7)) 27)).alloc (.cells #[.bool fl] 4)).alloc (.cells #[.bool false] 4)) :=
    (((Below.refl w.heap.size w).alloc (Nat.le_refl _) _).alloc (by simp) _).alloc (by simp; omega) _
  obtain ⟨hblk, hcf, hcv, hzv, hs3⟩ := three w (histCells h (.slice a1 h.pos.length c1) (.slice a2 h.neg.length c2) (.slice a3 h.ups.length c3) (.slice a4 h.downs.length c4) (.slice a5 (h.fups.map Int.ofNat).length c5) (.slice a6 (h.fdowns.map Int.ofNat).length c6) (.slice a7 (h.cus.map Int.ofNat).length c7)) (.bool fl) (.bool false) 27 4 4
  go_enter Tryd.func12, Tryd.ntmps12
  unfold histCells at *
  go_wp2_with fail
  simp only [List.length_map] at *
  generalize ((w.alloc _).alloc _).alloc _ = W at *
  refine (safe_store 30 _ W (w.heap.size + 1 + 1) (.bool false) (.bool (validH fl h)) hcv hzv (hcl _) ?_).mono ?_
  · have hb4 := (Below.refl W.heap.size W).alloc (Nat.le_refl _) (.cells #[.bool false] 4)
    have hl : w.heap.size < W.heap.size := by omega
    have e : (W.alloc (.cells #[.bool false] 4)).heap.size = W.heap.size + 1 := by simp
    have := histValid1_any (w.heap.size + 1) w.heap.size (w.heap.size + 1 + 1) fl false _ _ _ _ _ _ _ h (W.alloc (.cells #[.bool false] 4)) ((hb4.cell (p := ⟨w.heap.size + 1, 0, none⟩) (show w.heap.size + 1 < W.heap.size by omega)).trans hcf)
      (keep13 hb4 hl ⟨cells_of_block hblk 0, cells_of_block hblk 1, cells_of_block hblk 2, cells_of_block hblk 3, cells_of_block hblk 4, cells_of_block hblk 5, cells_of_block hblk 6, cells_of_block hblk 7, cells_of_block hblk 8, cells_of_block hblk 9, cells_of_block hblk 10, cells_of_block hblk 11, cells_of_block hblk 12⟩) ((hb4.cell (p := ⟨w.heap.size + 1 + 1, 0, none⟩) (show w.heap.size + 1 + 1 < W.heap.size by omega)).trans hcv) ((hb4.frozen (p := ⟨w.heap.size + 1 + 1, 0, none⟩) (show w.heap.size + 1 + 1 < W.heap.size by omega)).trans hzv)
      ((ha.below (hB3.trans (hb4.mono (by omega))) (Nat.le_refl _)).mono (by simp; omega) (Nat.le_refl _)) hf hw (he.below (hB3.trans (hb4.mono (by omega))) he.lt)
    rw [e] at this
    exact this
  · rintro e w' ⟨rfl, hg, hc', hz'⟩
    go_wp2_with fail
    refine bodyPost_ret (v := .bool (validH fl h)) (by simp [results, Tryd.results12, go_sem, hc']) rfl ⟨rfl, ?_⟩
    have hb5 : Below w.heap.size w w' := hB3.grown hg (by omega) (fun q hq => by cases hq; omega)
    exact hb5.setCell (show w.heap.size ≤ w.heap.size + 1 + 1 by omega) _
end Go.Proofs.YtbgkoapnejnfbaaDoor
