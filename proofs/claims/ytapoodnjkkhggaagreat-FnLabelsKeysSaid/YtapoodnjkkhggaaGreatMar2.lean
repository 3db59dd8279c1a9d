/-
  encodeSize, marshalLabelToSizedBuffer, marshalLabelsToSizedBuffer.
-/
import Derived.Test.YtapoodnjkkhggaaGreatMar
import Derived.Deep.Cut
import Derived.Deep.RegionHeld3
namespace Go.Proofs.YtapoodnjkkhggaaGreat
set_option linter.unusedSimpArgs false
set_option linter.unusedVariables false
open Go.RowKit

abbrev UT : TypeId := 5
set_option maxRecDepth 100000 in
set_option maxHeartbeats 2000000 in
theorem encSize_any (g n cap v : Nat) (A M R : List Value) (w : World) (hB : Blk w g (A ++ (M ++ R)) UT) (hM : M.length = szN v) (hn : A.length + M.length ≤ n) (hc : n ≤ cap) (hv : v < 16777216) (hs : n ≤ 1073741824) :
    Calls Tryz.prog 178 #[.slice (some ⟨g, 0, none⟩) n cap, .int .i64 (A.length + M.length : Nat), .int .i64 v] w fun e w' => e = .returned (.int .i64 (A.length : Nat)) ∧ Blk w' g (A ++ ((szE v).map u8v ++ R)) UT ∧ Chg (fun q => q = g) w w' := by
  obtain ⟨a, ha⟩ : ∃ a, a = A.length := ⟨_, rfl⟩
  by_cases c : v < 255
  · have hz : szN v = 1 := by unfold szN; rw [if_pos c]
    rw [hz] at hM
    obtain ⟨m0, rfl⟩ := List.length_eq_one_iff.1 hM
    have c0 := hB.cell a
    have f0 := hB.free a
    have hS := hB.set a (.int .u8 (v : Int))
    rw [List.singleton_append, set_at A m0 _ R a ha] at hS
    rw [List.getElem?_append_right (by omega), show a - A.length = 0 by omega] at c0
    simp only [List.singleton_append, List.getElem?_cons_zero] at c0
    have hch := chg_set w g a (.int .u8 (v : Int))
    rw [szE_small c]
    simp only [List.length_singleton] at hn ⊢
    rw [← ha] at hn ⊢
    have i1 : (a : Int) < (n : Int) := by omega
    have i0 : (0 : Int) ≤ (a : Int) := by omega
    have j1 : (v : Int) < 255 := by omega
    have jw : IntKind.u8.wrap (v : Int) = (v : Int) := IntWalk.u8_in _ (by omega)
    clear hB hM ha
    go_enter Tryz.func178, Tryz.ntmps178
    go_wp2_with fail
    go_ret
    exact ⟨rfl, hS, hch⟩
  · have hz : szN v = 4 := by unfold szN; rw [if_neg c]
    rw [hz] at hM
    obtain ⟨m0, m1, m2, m3, rfl⟩ : ∃ m0 m1 m2 m3, M = [m0, m1, m2, m3] := by
      match M, hM with
      | [a, b, c, d], _ => exact ⟨a, b, c, d, rfl⟩
    have cl : ∀ j (hj : j < 4), w.cell? ⟨g, a + j, none⟩ = [m0, m1, m2, m3][j]? := fun j hj => by
      rw [hB.cell, List.getElem?_append_right (by omega), show a + j - A.length = j by omega, List.getElem?_append_left (by simp; omega)]
    have c0 := cl 0 (by omega)
    have c1 := cl 1 (by omega)
    have c2 := cl 2 (by omega)
    have c3 := cl 3 (by omega)
    simp only [Nat.add_zero, List.getElem?_cons_zero, List.getElem?_cons_succ] at c0 c1 c2 c3
    have f0 := hB.free a
    have f1 := hB.free (a + 1)
    have f2 := hB.free (a + 2)
    have f3 := hB.free (a + 3)
    have hS := (((hB.set a (.int .u8 255)).set (a + 1) (.int .u8 ((v : Int) % 256))).set (a + 2) (.int .u8 ((v : Int) / 256 % 256))).set (a + 3) (.int .u8 ((v : Int) / 65536 % 256))
    have e1 : ((((A ++ ([m0, m1, m2, m3] ++ R)).set a (.int .u8 255)).set (a + 1) (.int .u8 ((v : Int) % 256))).set (a + 2) (.int .u8 ((v : Int) / 256 % 256))).set (a + 3) (.int .u8 ((v : Int) / 65536 % 256)) = A ++ ([.int .u8 255, .int .u8 ((v : Int) % 256), .int .u8 ((v : Int) / 256 % 256), .int .u8 ((v : Int) / 65536 % 256)] ++ R) := by
      rw [List.set_append_right _ _ (by omega), List.set_append_right _ _ (by omega), List.set_append_right _ _ (by omega), List.set_append_right _ _ (by omega)]
      rw [show a - A.length = 0 by omega, show a + 1 - A.length = 1 by omega, show a + 2 - A.length = 2 by omega, show a + 3 - A.length = 3 by omega]
      rfl
    rw [e1] at hS
    have hch := ((((Chg.refl (fun q => q = g) w).setCell ⟨g, a, none⟩ rfl (.int .u8 255)).setCell ⟨g, a + 1, none⟩ rfl (.int .u8 ((v : Int) % 256))).setCell ⟨g, a + 2, none⟩ rfl (.int .u8 ((v : Int) / 256 % 256))).setCell ⟨g, a + 3, none⟩ rfl (.int .u8 ((v : Int) / 65536 % 256))
    have e4 : (v : Int) / 65536 % 256 = (v : Int) / 65536 := by omega
    rw [szE_big c, e4]
    rw [e4] at hS hch
    have HS := Lib.hid hS
    have HC := Lib.hid hch
    clear hS hch e4
    simp only [List.length_cons, List.length_nil] at hn ⊢
    rw [← ha] at hn ⊢
    have i0 : (a : Int) < (n : Int) := by omega
    have i1 : (a : Int) + 1 < (n : Int) := by omega
    have i2 : (a : Int) + 2 < (n : Int) := by omega
    have i3 : (a : Int) + 3 < (n : Int) := by omega
    have j0 : (0 : Int) ≤ (a : Int) := by omega
    have j1 : (0 : Int) ≤ (a : Int) + 1 := by omega
    have j2 : (0 : Int) ≤ (a : Int) + 2 := by omega
    have j3 : (0 : Int) ≤ (a : Int) + 3 := by omega
    have k1 : ¬ (v : Int) < 255 := by omega
    clear hB hM ha cl e1
    go_enter Tryz.func178, Tryz.ntmps178
    go_wp2_with fail
    go_ret
    exact ⟨rfl, HS.out, HC.out⟩

/-- copy of a string into a row of bytes -/
theorem run_copyS (w : World) (dT sT ty : TypeId) (hu : Tryz.prog.underlying dT = some (.slice UT)) (p : Option Addr) (dLen dCap : Nat) (t : ByteArray) (hle : t.size ≤ dLen) (g off : Nat) (A M R : List Value)
    (hB : Blk w g (A ++ (M ++ R)) UT) (hA : A.length = off) (hM : M.length = t.size) (hp : 0 < t.size → p = some ⟨g, off, none⟩) :
    ∃ w', (Builtin.copy_ #[dT, sT] ty #[.slice p dLen dCap, .string t]).run Tryz.prog w = .ok (goInt t.size) w' ∧ Blk w' g (A ++ (t.data.toList.map u8v ++ R)) UT ∧ Chg (fun q => q = g) w w' := by
  have hs1 : (Tryz.prog.info? UT).map (·.size) = some 1 := by kernel_rfl
  rcases Nat.eq_zero_or_pos t.size with h0 | h0
  · have ht : t.data.toList = [] := List.length_eq_zero_iff.1 (by rw [show t.data.toList.length = t.size from rfl]; exact h0)
    have hM0 : M = [] := List.length_eq_zero_iff.1 (by omega)
    refine ⟨w, ?_, ?_, Chg.refl _ _⟩
    · have := Lib.run_copy_empty_string (P := Tryz.prog) w dT sT ty UT p dLen dCap t hu (by kernel_rfl) h0
      rw [this, h0]; rfl
    · rw [ht]; subst hM0; exact hB
  · obtain rfl := hp h0
    have hrow := Lib.run_copy_row_string (P := Tryz.prog) w dT sT ty UT g off dLen dCap t (A ++ (M ++ R)).toArray UT hu hs1 hB hle (by simp; omega)
    refine ⟨_, hrow, ?_, ⟨rfl, rfl, rfl, by simp, fun k _ hk => setRow_other w g k _ hk⟩⟩
    unfold Blk
    rw [setRow_heap w g _ _ UT _ hB]
    have e1 : (A ++ (M ++ R)).toArray.toList.take off = A := by rw [List.toList_toArray]; exact List.take_left' hA
    have e2 : (A ++ (M ++ R)).toArray.toList.drop (off + t.size) = R := by
      rw [List.toList_toArray, ← List.append_assoc]; exact List.drop_left' (by rw [List.length_append]; omega)
    rw [e1, e2, List.append_assoc]
    rfl
theorem step_copyS {ops : Array Oper} {o : Oper} {a : Act} {w : World} {K : Act → World → Prop} {Q : Exit → Act → World → Prop} {E : Prop} (hgd : o.guard = none) (d x : Operand) (dT sT : TypeId)
    (ho : o.op = .call { callee := .builtin .copy, args := #[d, x], argTypes := #[dT, sT] }) (hu : Tryz.prog.underlying dT = some (.slice UT)) {p : Option Addr} {dLen dCap : Nat} (hd : a.eval d = .slice p dLen dCap) {t : ByteArray} (hx : a.eval x = .string t) (hle : t.size ≤ dLen) (g off : Nat) (A M R : List Value)
    (hB : Blk w g (A ++ (M ++ R)) UT) (hA : A.length = off) (hM : M.length = t.size) (hp : 0 < t.size → p = some ⟨g, off, none⟩)
    (hK : ∀ w', Blk w' g (A ++ (t.data.toList.map u8v ++ R)) UT → Chg (fun q => q = g) w w' → K (a.put o.dst (goInt t.size)) w') : if Region.wanted o (yielded ops a.tmps) = true then Oper.wp Tryz.prog o a w K Q else E := by
  have hw : Region.wanted o (yielded ops a.tmps) = true := by simp [Region.wanted, hgd]
  rw [if_pos hw]
  obtain ⟨w', hr, h1, h2⟩ := run_copyS w dT sT o.type hu p dLen dCap t hle g off A M R hB hA hM hp
  unfold Oper.wp execOp
  simp only [ho, resolve, invoke, builtin, Sem.run_bind, Sem.run_pure, Result.andThen_ok, List.map_toArray, List.map_cons, List.map_nil, hd, hx, hr]
  exact hK w' h1 h2
theorem LAt.chg {w w' : World} {b off g : Nat} {x : Lb} (h : LAt w b off x) (hc : Chg (fun q => q = g) w w') (hb : b ≠ g) : LAt w' b off x := ⟨cell_chg hc h.1 hb, cell_chg hc h.2 hb⟩
theorem splitN {α : Type} (l : List α) (n m : Nat) (h : l.length = n + m) : ∃ a b, l = a ++ b ∧ a.length = n ∧ b.length = m := ⟨l.take n, l.drop n, (List.take_append_drop n l).symm, by rw [List.length_take]; omega, by rw [List.length_drop]; omega⟩
set_option maxRecDepth 100000 in
set_option maxHeartbeats 4000000 in
theorem marshal_any (b off g n cap : Nat) (x : Lb) (A M R : List Value) (w : World) (hL : LAt w b off x) (hbg : b ≠ g) (h1 : x.1.size < 16777216) (h2 : x.2.size < 16777216) (hB : Blk w g (A ++ (M ++ R)) UT) (hM : M.length = lbN x) (hn : A.length + M.length = n) (hc : n ≤ cap) (hs : n ≤ 1073741824) :
    Calls Tryz.prog 140 #[.pointer (some ⟨b, off, none⟩), .slice (some ⟨g, 0, none⟩) n cap] w fun e w' => e = .returned (.int .i64 (lbN x : Nat)) ∧ Blk w' g (A ++ ((strE x.1 ++ strE x.2).map u8v ++ R)) UT ∧ Chg (fun q => q = g) w w' := by
  obtain ⟨x1, x2⟩ := x
  simp only at h1 h2
  have hlb : lbN (x1, x2) = szN x1.size + x1.size + (szN x2.size + x2.size) := rfl
  rw [hlb] at hM
  obtain ⟨M12, M34, rfl, l12, l34⟩ := splitN M _ _ hM
  obtain ⟨M1, M2, rfl, l1, l2⟩ := splitN M12 _ _ l12
  obtain ⟨M3, M4, rfl, l3, l4⟩ := splitN M34 _ _ l34
  obtain ⟨a, ha⟩ : ∃ a, a = A.length := ⟨_, rfl⟩
  obtain ⟨i3, e3⟩ : ∃ i, i = a + szN x1.size := ⟨_, rfl⟩
  obtain ⟨i2, e2⟩ : ∃ i, i = i3 + x1.size := ⟨_, rfl⟩
  obtain ⟨i1, e1⟩ : ∃ i, i = i2 + szN x2.size := ⟨_, rfl⟩
  have en : n = i1 + x2.size := by rw [← hn]; simp only [List.length_append]; omega
  have s2 : ∀ w', Blk w' g (A ++ (M1 ++ M2) ++ (M3 ++ (x2.data.toList.map u8v ++ R))) UT → Calls Tryz.prog 178 #[.slice (some ⟨g, 0, none⟩) n cap, .int .i64 i1, .int .i64 x2.size] w' fun e w'' => e = .returned (.int .i64 i2) ∧ Blk w'' g (A ++ (M1 ++ M2) ++ ((szE x2.size).map u8v ++ (x2.data.toList.map u8v ++ R))) UT ∧ Chg (fun q => q = g) w' w'' := fun w' hB' => by
    have := encSize_any g n cap x2.size (A ++ (M1 ++ M2)) M3 (x2.data.toList.map u8v ++ R) w' hB' l3 (by simp only [List.length_append]; omega) hc h2 hs
    rw [show (A ++ (M1 ++ M2)).length = i2 by simp only [List.length_append]; omega, show i2 + M3.length = i1 by omega] at this
    exact this
  have s1 : ∀ w', Blk w' g (A ++ (M1 ++ (x1.data.toList.map u8v ++ ((szE x2.size).map u8v ++ (x2.data.toList.map u8v ++ R))))) UT → Calls Tryz.prog 178 #[.slice (some ⟨g, 0, none⟩) n cap, .int .i64 i3, .int .i64 x1.size] w' fun e w'' => e = .returned (.int .i64 a) ∧ Blk w'' g (A ++ ((szE x1.size).map u8v ++ (x1.data.toList.map u8v ++ ((szE x2.size).map u8v ++ (x2.data.toList.map u8v ++ R))))) UT ∧ Chg (fun q => q = g) w' w'' := fun w' hB' => by
    have := encSize_any g n cap x1.size A M1 (x1.data.toList.map u8v ++ ((szE x2.size).map u8v ++ (x2.data.toList.map u8v ++ R))) w' hB' l1 (by omega) hc h1 hs
    rw [← ha, show a + M1.length = i3 by omega] at this
    exact this
  have q1 := szN_pos x1.size
  have q2 := szN_pos x2.size
  have hB0 : Blk w g (A ++ (M1 ++ M2 ++ M3) ++ (M4 ++ R)) UT := by
    have : A ++ (M1 ++ M2 ++ M3) ++ (M4 ++ R) = A ++ (M1 ++ M2 ++ (M3 ++ M4) ++ R) := by simp only [List.append_assoc]
    rw [this]; exact hB
  have hA0 : (A ++ (M1 ++ M2 ++ M3)).length = i1 := by simp only [List.length_append]; omega
  have hA1 : (A ++ M1).length = i3 := by simp only [List.length_append]; omega
  have HL := Lib.hid (show (n : Int) - (a : Int) = ((lbN (x1, x2) : Nat) : Int) by omega)
  have HE := Lib.hid (show (strE x1 ++ strE x2).map u8v ++ R = (szE x1.size).map u8v ++ (x1.data.toList.map u8v ++ ((szE x2.size).map u8v ++ (x2.data.toList.map u8v ++ R))) by unfold strE; simp only [List.map_append, List.append_assoc])
  have b0 : (0 : Int) ≤ (i1 : Int) := by omega
  have b1 : (i1 : Int) ≤ (n : Int) := by omega
  have b2 : (0 : Int) ≤ (i3 : Int) := by omega
  have b3 : (i3 : Int) ≤ (n : Int) := by omega
  have b4 : (n : Int) ≤ (cap : Int) := by omega
  have b5 : ¬ cap = i3 := by omega
  have v1 : IntKind.i64.wrap ((n : Int) - (x2.size : Int)) = (i1 : Int) := by rw [show (n : Int) - (x2.size : Int) = (i1 : Int) by omega]; exact IntWalk.i64_in _ (by omega)
  have v2 : IntKind.i64.wrap ((i2 : Int) - (x1.size : Int)) = (i3 : Int) := by rw [show (i2 : Int) - (x1.size : Int) = (i3 : Int) by omega]; exact IntWalk.i64_in _ (by omega)
  have v3 : IntKind.i64.wrap ((n : Int) - (a : Int)) = (n : Int) - (a : Int) := IntWalk.i64_in _ (by omega)
  have hl2 : x2.size ≤ n - i1 := by omega
  have hl1 : x1.size ≤ n - i3 := by omega
  have hp : 0 < x2.size → cap ≠ i1 := by omega
  obtain ⟨c0, c1⟩ := hL
  simp only at c0 c1
  clear hM hn hlb hB l12 l34 l1 l3 e1 e2 e3 en q1 q2 hs ha
  go_enter Tryz.func140, Tryz.ntmps140
  have hx0 := Lib.hid hB0
  have hx1 := Lib.hid hA0
  have hx2 := Lib.hid l4
  have hx3 := Lib.hid hA1
  have hx4 := Lib.hid l2
  clear hB0 hA0 l4 hA1 l2
  go_wp2_with fail
  go_region_law (refine step_copyS rfl (.tmp 17) (.tmp 21) 39 9 rfl Tryz.underlying39 rfl rfl hl2 g i1 _ M4 R hx0.out hx1.out hx2.out (fun h => if_neg (hp h)) ?_; intro w1 hw1 hc1)
  generalize (if cap = i1 then some (⟨g, 0, none⟩ : Addr) else some ⟨g, i1, none⟩) = pp
  have hw1' : Blk w1 g (A ++ (M1 ++ M2) ++ (M3 ++ (x2.data.toList.map u8v ++ R))) UT := by
    have e : A ++ (M1 ++ M2) ++ (M3 ++ (x2.data.toList.map u8v ++ R)) = A ++ (M1 ++ M2 ++ M3) ++ (x2.data.toList.map u8v ++ R) := by simp only [List.append_assoc]
    rw [e]; exact hw1
  have hcW1 : Chg (fun q => q = g) w w1 := (Chg.refl (fun q => q = g) w).drew.trans hc1
  have c0' := cell_chg hcW1 c0 hbg
  have c1' := cell_chg hcW1 c1 hbg
  clear hw1 hc1 hx0 hx1
  go_wp2_with ((with_reducible refine (s2 _ hw1').mono ?_); rintro e w2 ⟨rfl, hw2, hc2⟩; have hcW2 := hcW1.trans hc2; have c0'' := cell_chg hcW2 c0 hbg; have c1'' := cell_chg hcW2 c1 hbg)
  have hw2' : Blk w2 g (A ++ M1 ++ (M2 ++ ((szE x2.size).map u8v ++ (x2.data.toList.map u8v ++ R)))) UT := by
    have e : A ++ M1 ++ (M2 ++ ((szE x2.size).map u8v ++ (x2.data.toList.map u8v ++ R))) = A ++ (M1 ++ M2) ++ ((szE x2.size).map u8v ++ (x2.data.toList.map u8v ++ R)) := by simp only [List.append_assoc]
    rw [e]; exact hw2
  clear c0' c1' hw1' hw2 hc2 hcW1 s2
  go_region_law (refine step_copyS rfl (.tmp 40) (.tmp 44) 39 9 rfl Tryz.underlying39 rfl rfl hl1 g i3 _ M2 _ hw2' hx3.out hx4.out (fun h => rfl) ?_; intro w3 hw3 hc3)
  have hcW3 : Chg (fun q => q = g) w w3 := hcW2.drew.trans hc3
  have c0' := cell_chg hcW3 c0 hbg
  have c1' := cell_chg hcW3 c1 hbg
  have hw3' : Blk w3 g (A ++ (M1 ++ (x1.data.toList.map u8v ++ ((szE x2.size).map u8v ++ (x2.data.toList.map u8v ++ R))))) UT := by
    have e : A ++ (M1 ++ (x1.data.toList.map u8v ++ ((szE x2.size).map u8v ++ (x2.data.toList.map u8v ++ R)))) = A ++ M1 ++ (x1.data.toList.map u8v ++ ((szE x2.size).map u8v ++ (x2.data.toList.map u8v ++ R))) := by simp only [List.append_assoc]
    rw [e]; exact hw3
  clear c0'' c1'' hw2' hw3 hc3 hcW2
  go_wp2_with ((with_reducible refine (s1 _ hw3').mono ?_); rintro e w4 ⟨rfl, hw4, hc4⟩)
  go_ret
  refine ⟨?_, ?_, hcW3.trans hc4⟩
  · rw [← HL.out]; rfl
  · rw [show (strE (x1, x2).fst ++ strE (x1, x2).snd).map u8v ++ R = (strE x1 ++ strE x2).map u8v ++ R from rfl, HE.out]
    exact hw4

theorem encL_one (x : Lb) : encL [x] = strE x.1 ++ strE x.2 := by rw [encL_cons]; simp [encL, ents, encE]
theorem encL_drop {l : List Lb} {k : Nat} (hk : k < l.length) : encL (l.drop k) = strE l[k].1 ++ strE l[k].2 ++ encL (l.drop (k + 1)) := by rw [List.drop_eq_getElem_cons hk, encL_cons, List.append_assoc]
set_option maxRecDepth 100000 in
set_option maxHeartbeats 4000000 in
/-- all labels, from the last one on: the bytes of a buffer of their size -/
theorem marshals_any (v : Value) (l : List Lb) (g n cap : Nat) (A M R : List Value) (w : World) (h : Ls w v l) (hvg : ∀ a m c, v = .slice (some a) m c → a.block ≠ g) (hf : FitL l) (hl : l.length ≤ 12) (hB : Blk w g (A ++ (M ++ R)) UT) (hA : A = []) (hn : n = lbsN l) (hM : M.length = n) (hc : n ≤ cap) :
    Calls Tryz.prog 128 #[v, .slice (some ⟨g, 0, none⟩) n cap] w fun e w' => e = .returned (.int .i64 (lbsN l : Nat)) ∧ Blk w' g ((encL l).map u8v ++ R) UT ∧ Chg (fun q => q = g) w w' := by
  obtain ⟨ao, lc, rfl, h1, h2⟩ := h.form
  have hbn := lbsN_le hf
  subst hA
  subst hn
  have hw1 : IntKind.i64.wrap ((l.length : Int) - 1) = (l.length : Int) - 1 := IntWalk.i64_in _ (by omega)
  go_enter Tryz.func128, Tryz.ntmps128
  go_wp2_with fail
  go_loopw [5, 6] (fun iv kv wr => ∃ k : Nat, k ≤ l.length ∧ kv = .int .i64 ((k : Int) - 1) ∧ iv = .int .i64 (lbsN (l.take k) : Nat) ∧ (∃ M, M.length = lbsN (l.take k) ∧ Blk wr g (M ++ ((encL (l.drop k)).map u8v ++ R)) UT) ∧ Chg (fun q => q = g) w wr) (fun _ kv _ => (intOf kv + 1).toNat)
  case atStart => exact ⟨l.length, Nat.le_refl _, rfl, by rw [List.take_length], ⟨M, by rw [List.take_length]; exact hM, by rw [List.drop_length]; exact hB⟩, Chg.refl _ _⟩
  case round => as_aux_lemma =>
    obtain ⟨k, hk, rfl, rfl, ⟨M', hM', hB'⟩, hch⟩ := hrel
    clear hw1 hB hM
    obtain ⟨z, hz⟩ : ∃ z : Int, z = (k : Int) - 1 := ⟨_, rfl⟩
    rw [← hz]
    rcases Nat.eq_zero_or_pos k with rfl | hk0
    · have hc0 : ¬ (0 : Int) ≤ z := by omega
      have hM0 : M' = [] := List.length_eq_zero_iff.1 hM'
      subst hM0
      have e0 : lbsN (l.take 0) = 0 := rfl
      rw [e0]
      have hw3 : IntKind.i64.wrap (lbsN l : Int) = (lbsN l : Int) := IntWalk.i64_in _ (by omega)
      clear hM' hz
      go_wp2_with fail
      go_ret
      exact ⟨rfl, hB', hch⟩
    · obtain ⟨j, rfl⟩ : ∃ j, k = j + 1 := ⟨k - 1, by omega⟩
      obtain rfl : z = (j : Int) := by omega
      have hlt : j < l.length := by omega
      obtain ⟨b, off, rfl, hb, hcc⟩ := h.at_ (by omega)
      obtain ⟨c0, c1⟩ := hcc j hlt
      have hbg : b ≠ g := hvg ⟨b, off, none⟩ _ _ rfl
      have hL : LAt wr.drew b (off + j * 2) l[j] := ⟨cell_chg hch c0 hbg, cell_chg hch c1 hbg⟩
      have hx := hf _ (List.getElem_mem hlt)
      have hT := lbsN_take hlt
      have hle := lbsN_take_le l (j + 1)
      have HE := Lib.hid (encL_drop hlt)
      obtain ⟨A1, M1, rfl, lA, lM⟩ := splitN M' (lbsN (l.take j)) (lbN l[j]) (by omega)
      have hBd : Blk wr.drew g (A1 ++ (M1 ++ ((encL (l.drop (j + 1))).map u8v ++ R))) UT := by
        rw [← List.append_assoc]; exact hB'
      have hS := marshal_any b (off + j * 2) g (lbsN (l.take (j + 1))) cap l[j] A1 M1 _ wr.drew hL hbg hx.1 hx.2 hBd lM (by omega) (by omega) (by omega)
      have HA := Lib.hid lA
      have hwj : IntKind.i64.wrap ((lbsN (l.take (j + 1)) : Int) - (lbN l[j] : Int)) = (lbsN (l.take j) : Int) := by rw [show (lbsN (l.take (j + 1)) : Int) - (lbN l[j] : Int) = (lbsN (l.take j) : Int) by omega]; exact IntWalk.i64_in _ (by omega)
      clear hL hx hB' hBd lA lM c0 c1 hcc hM'
      generalize l[j] = x at *
      have i0 : (0 : Int) ≤ (j : Int) := by omega
      have i1 : (j : Int) < (l.length : Int) := by omega
      have i2 : (0 : Int) ≤ (lbsN (l.take (j + 1)) : Int) := by omega
      have i3 : (lbsN (l.take (j + 1)) : Int) ≤ (cap : Int) := by omega
      have HQ := Lib.hid (show lbsN (l.take j) = lbsN (l.take j) from rfl)
      clear hT hle hz
      generalize hq2 : lbsN (l.take j) = q2 at *
      generalize lbsN (l.take (j + 1)) = q1 at *
      generalize lbN x = q3 at *
      go_upto_region 5 with fail
      go_region_held3 (fun _ => True) (first | exact trivial | fail) (first | ((with_reducible refine hS.mono ?_); rintro e w1 ⟨rfl, hB1, hc1⟩) | fail)
      have hch1 : Chg (fun q => q = g) w w1 := hch.drew.trans hc1
      have hB1' : Blk w1 g (A1 ++ ((encL (l.drop j)).map u8v ++ R)) UT := by
        rw [HE.out, List.map_append, List.append_assoc]; exact hB1
      clear hS hB1 hc1 hch
      go_wp2_with fail
      go_roundw
      case rel => exact ⟨j, by omega, rfl, by rw [hq2], ⟨A1, by rw [hq2]; exact HA.out, hB1'⟩, hch1⟩
      case measure => simp [intOf]
end Go.Proofs.YtapoodnjkkhggaaGreat
