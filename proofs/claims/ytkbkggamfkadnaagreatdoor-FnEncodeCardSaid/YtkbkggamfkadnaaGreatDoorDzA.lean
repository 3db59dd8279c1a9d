/-
  An argument that is a list of data, opened; zzFits of it. What the reference reads, and what is got: the same data (plain). Data that lie in memory behind the reference, and behind impl.Decode; what the variable of the error holds.
-/
import Derived.Test.YtkbkggamfkadnaaGreatDoorDyA
import Derived.Test.YtkbkggamfkadnaaGreatDoorIdxArgs
import Derived.Test.YtkbkggamfkadnaaGreatDoorIdxErrs
import Derived.Test.YtkbkggamfkadnaaGreatDoorDy5
import Derived.Laws.BytesString
namespace Go.Proofs.YtkbkggamfkadnaaGreatDoor
set_option linter.unusedSimpArgs false
set_option linter.unusedVariables false
open Go.RowKit Go.Deep Go.ChangeShapes Go.WideShapes Go.ChangeAt

theorem rngu64 {z : Int} (hz : (Lit.int .u64 z).wf = true) : 0 ≤ z ∧ z ≤ 18446744073709551615 := by
  have m0 : IntKind.u64.min = 0 := by decide
  have m1 : IntKind.u64.max = 18446744073709551615 := by decide
  simpa only [Lit.wf, Bool.and_eq_true, decide_eq_true_eq, m0, m1] using hz
/-- a datum as it is handed in -/
def DatIn (W : World) (x : Int × Int × Value) : Prop := (-9223372036854775808 ≤ x.1 ∧ x.1 ≤ 9223372036854775807) ∧ (0 ≤ x.2.1 ∧ x.2.1 ≤ 18446744073709551615) ∧ ∃ s : List UInt8, Bytes W x.2.2 s
set_option maxRecDepth 100000 in
theorem open_bytes1 {H : Type} {enc : TypeId × Value → H} {W : World} {spare : Nat → Bool} {held : Bool} {cs : List Value} {fuel : Nat} {x : DataW H × List MemPlace}
    (hf : DataW.trod enc Tryz.prog W 0 spare held fuel 22 cs = some x) : ∃ v, cs = [v] ∧ ∃ b : List UInt8, Bytes W v b := by
  obtain ⟨v, l, hcs, hI, hw⟩ := open_Ints Tryz.underlying22 Tryz.underlying5 (by kernel_rfl) hf
  obtain ⟨b, rfl⟩ := bytes_of l hw
  refine ⟨v, hcs, b, ?_⟩
  unfold Ints at hI
  rw [List.length_map] at hI
  exact Sl.congr hI fun i hi => by
    have hi' : i < b.length := by omega
    simp [List.getD_eq_getElem?_getD, hi']
set_option maxRecDepth 100000 in
theorem open_dat {H : Type} {enc : TypeId × Value → H} {W : World} {spare : Nat → Bool} {held : Bool} {cs : List Value} {fuel : Nat} {x : DataW H × List MemPlace}
    (hf : DataW.trod enc Tryz.prog W 0 spare held fuel 28 cs = some x) : ∃ y : {z : Int × Int × Value // DatIn W z}, cs = [.int .i64 y.1.1, .int .u64 y.1.2.1, y.1.2.2] := by
  obtain ⟨xs, n, _, _, hl, hlen, hx⟩ := DataW.trod_struct Tryz.underlying28 hf
  have hl' : cs.length = 3 := hl.trans (by kernel_rfl)
  match cs, hl', xs, hlen with
  | [c0, c1, c2], _, [y0, y1, y2], _ =>
  have g0 : DataW.trod enc Tryz.prog W 0 spare held n 3 [c0] = some y0 := by
    have hc : Tryz.prog.cellsOf 3 = 1 := by kernel_rfl
    refine Eq.trans ?_ (hx 0 _ rfl)
    show _ = DataW.trod enc Tryz.prog W 0 spare held n 3 (List.take (Tryz.prog.cellsOf 3) (List.drop 0 [c0, c1, c2]))
    rw [hc]
    rfl
  have g1 : DataW.trod enc Tryz.prog W 0 spare held n 26 [c1] = some y1 := by
    have hc : Tryz.prog.cellsOf 26 = 1 := by kernel_rfl
    refine Eq.trans ?_ (hx 1 _ rfl)
    show _ = DataW.trod enc Tryz.prog W 0 spare held n 26 (List.take (Tryz.prog.cellsOf 26) (List.drop 1 [c0, c1, c2]))
    rw [hc]
    rfl
  have g2 : DataW.trod enc Tryz.prog W 0 spare held n 22 [c2] = some y2 := by
    have hc : Tryz.prog.cellsOf 22 = 1 := by kernel_rfl
    refine Eq.trans ?_ (hx 2 _ rfl)
    show _ = DataW.trod enc Tryz.prog W 0 spare held n 22 (List.take (Tryz.prog.cellsOf 22) (List.drop 2 [c0, c1, c2]))
    rw [hc]
    rfl
  obtain ⟨z0, e0, _, w0⟩ := DataW.trod_int Tryz.underlying3 g0
  obtain ⟨z1, e1, _, w1⟩ := DataW.trod_int Tryz.underlying26 g1
  obtain ⟨v2, e2, b2, h2⟩ := open_bytes1 g2
  cases e0; cases e1; cases e2
  exact ⟨⟨(z0, z1, c2), rng64 w0, rngu64 w1, b2, h2⟩, rfl⟩
set_option maxRecDepth 100000 in
theorem open_dats {H : Type} {enc : TypeId × Value → H} {W : World} {spare : Nat → Bool} {held : Bool} {v : Value} {d : DataW H} {ps : List MemPlace} {base : Nat}
    (hval : Value.okWide Tryz.prog W .any base 23 v) (h : DataW.Trod enc Tryz.prog W 0 spare held 23 v d ps) : ∃ K : List (Int × Int × Value), Dats W W.heap.size v K ∧ ∀ x ∈ K, DatIn W x := by
  obtain ⟨xa, xl, xc, rfl⟩ := okWide_slice Tryz.underlying23 hval
  obtain ⟨fuel, hf⟩ := h
  obtain ⟨x, l, hcs, hI⟩ := open_sl (α := {z : Int × Int × Value // DatIn W z}) Tryz.underlying23 (show Tryz.prog.cellsOf 28 = 3 by kernel_rfl) (by omega) hf (fun ecs z => ecs = [.int .i64 z.1.1, .int .u64 z.1.2.1, z.1.2.2]) (fun n cs' y hy => open_dat hy)
  simp [Value.cells] at hcs
  subst hcs
  refine ⟨l.map Subtype.val, ?_, fun x hx => ?_⟩
  · unfold Dats
    rw [List.length_map]
    refine hI _ ?_
    rintro i hi ecs rfl j hj
    have e1 : (i * 3 + j) % 3 = j := by omega
    have e2 : (i * 3 + j) / 3 = i := by omega
    simp only [e1, e2]
    have hg : (l.map Subtype.val).getD i (0, 0, undef) = l[i].1 := by simp [List.getD_eq_getElem?_getD, hi]
    rw [hg]
    rcases j with _ | _ | _ | j
    · rfl
    · rfl
    · rfl
    · omega
  · obtain ⟨y, _, rfl⟩ := List.mem_map.1 hx
    exact y.2

def AnyB (w : World) (e : Ending) (w' : World) : Prop := ∃ b, e = .returned (.bool b) ∧ Below w.heap.size w w'
theorem AnyB.intro {w w' : World} {b : Bool} (h : Below w.heap.size w w') : AnyB w (.returned (.bool b)) w' := ⟨b, rfl, h⟩
set_option maxRecDepth 100000 in
set_option maxHeartbeats 2000000 in
theorem fits17_any (k N : Int) (a : Option Addr) (n c : Nat) (w : World) : Calls Tryz.prog 16 #[.agg #[.int .i64 k, .int .u64 N, .slice a n c]] w (AnyB w) := by
  by_cases h : 2147483647 < n
  · have h' : (2147483647 : Int) < (n : Int) := by omega
    go_enter Tryz.func16, Tryz.ntmps16
    go_wp2_with fail
    go_ret
    exact AnyB.intro (below_new _ _)
  · have h' : ¬ (2147483647 : Int) < (n : Int) := by omega
    go_enter Tryz.func16, Tryz.ntmps16
    go_wp2_with fail
    go_ret
    exact AnyB.intro (below_new _ _)
def FitsOut (w : World) (n : Nat) (e : Ending) (w' : World) : Prop := ∃ b, e = .returned (.bool b) ∧ Below w.heap.size w w' ∧ (b = true → n ≤ 2147483647)
theorem FitsOut.no {w w' : World} {n : Nat} (h : Below w.heap.size w w') : FitsOut w n (.returned (.bool false)) w' := ⟨_, rfl, h, fun h => by cases h⟩
theorem FitsOut.yes {w w' : World} {n : Nat} (h : Below w.heap.size w w') (hn : n ≤ 2147483647) : FitsOut w n (.returned (.bool true)) w' := ⟨_, rfl, h, fun _ => hn⟩
set_option maxRecDepth 100000 in
set_option maxHeartbeats 2000000 in
theorem fits16_any (v : Value) (K : List (Int × Int × Value)) (w : World) (h : Dats w w.heap.size v K) (hk : ∀ x ∈ K, ∃ a n c, x.2.2 = .slice a n c) :
    Calls Tryz.prog 6 #[v] w (FitsOut w K.length) := by
  obtain ⟨ao, cap, rfl, h1, h2⟩ := h.form
  by_cases c1 : 2147483647 < K.length
  · have c1' : (2147483647 : Int) < (K.length : Int) := by omega
    go_enter Tryz.func6, Tryz.ntmps6
    go_wp2_with fail
    go_ret
    exact FitsOut.no (Below.refl _ _)
  · have c1' : ¬ (2147483647 : Int) < (K.length : Int) := by omega
    go_enter Tryz.func6, Tryz.ntmps6
    go_wp2_with fail
    go_loopw [10] (fun i wr => ∃ k : Nat, k ≤ K.length ∧ i = .int .i64 k ∧ Below w.heap.size w wr) (fun i _ => K.length - (intOf i).toNat)
    case atStart => exact ⟨0, Nat.zero_le _, rfl, Below.refl _ _⟩
    case round =>
      obtain ⟨k, hkl, rfl, hbel⟩ := hrel
      by_cases hlt : k < K.length
      · obtain ⟨b, off, rfl, hbB, _, hcc⟩ := Dats.at_ h (by omega)
        obtain ⟨f0, f1, f2⟩ := hcc k hlt
        obtain ⟨sa, sn, sc, q5⟩ := hk K[k] (List.getElem_mem _)
        rw [q5] at f2
        have g0 := (hbel.cell (p := ⟨b, off + k * 3, none⟩) hbB).trans f0
        have g1 := (hbel.cell (p := ⟨b, off + k * 3 + 1, none⟩) hbB).trans f1
        have g2 := (hbel.cell (p := ⟨b, off + k * 3 + 2, none⟩) hbB).trans f2
        clear hcc f0 f1 f2 q5
        have i1 : (k : Int) < (K.length : Int) := by omega
        have hbn := below_new wr (.cells #[.int .i64 K[k].1, .int .u64 K[k].2.1, .slice sa sn sc] 28)
        generalize K[k].1 = kk at *
        generalize K[k].2.1 = NN at *
        go_wp2_with (first | (go_at_call 16; refine (fits17_any _ _ _ _ _ _).mono ?_; rintro e w' ⟨b, rfl, hb'⟩; have hB3 := bnx (bnx hbel hbn) hb'; cases b) | fail)
        · go_ret
          exact FitsOut.no hB3
        · go_roundw
          case rel => exact ⟨k + 1, by omega, by go_num, hB3⟩
          case measure => simp [intOf]; omega
      · obtain rfl : k = K.length := by omega
        go_wp2_with fail
        go_ret
        exact FitsOut.yes hbel (by omega)
end Go.Proofs.YtkbkggamfkadnaaGreatDoor
namespace Go.Proofs.YtkbkggamfkadnaaGreatDoor
set_option linter.unusedSimpArgs false
set_option linter.unusedVariables false
open Go.RowKit

theorem mod_small {x : Nat} (h : (x : Int) < 4294967296) : (x : Int) % 4294967296 = x := by omega
/-- one datum -/
theorem one_same {k N : Nat} {m : List UInt8} {o : Option ((Int × List UInt8) × List UInt8)} (hk : k ≤ 12) (h : sOne k N m = some o) (h7 : k = 7 → ∀ d r, o = some (d, r) → d.1 < 4294967296) : decD k N m = o := by
  have hkk : k = 0 ∨ k = 1 ∨ k = 2 ∨ k = 3 ∨ k = 4 ∨ k = 5 ∨ k = 6 ∨ k = 7 ∨ k = 8 ∨ k = 9 ∨ k = 10 ∨ k = 11 ∨ k = 12 := by omega
  rcases hkk with rfl | rfl | rfl | rfl | rfl | rfl | rfl | rfl | rfl | rfl | rfl | rfl | rfl
  iterate 6 exact Option.some.inj h
  · exact Option.some.inj h
  · have h := Option.some.inj h
    subst h
    show (decU m).map _ = (decU m).map _
    cases hd : decU m with
    | none => rfl
    | some p =>
      have := h7 rfl (((p.1 : Nat) : Int), []) p.2 (by rw [hd]; rfl)
      simp only [Option.map_some]
      rw [mod_small this]
  · exact Option.some.inj h
  · exact Option.some.inj h
  · unfold sOne at h
    unfold decD decS
    rw [if_neg (by omega), if_neg (by omega), if_neg (by omega), if_pos (by omega)] at h
    cases hd : decU m with
    | none => rw [hd] at h; exact Option.some.inj h
    | some p =>
      obtain ⟨X, r⟩ := p
      rw [hd] at h
      simp only at h ⊢
      split at h
      · cases h
      · split at h
        · rename_i hx
          rw [if_pos hx]
          exact Option.some.inj h
        · rename_i hx
          rw [if_neg hx]
          exact Option.some.inj h
  · unfold sOne at h
    unfold decD decS
    rw [if_neg (by omega), if_neg (by omega), if_neg (by omega), if_pos (by omega)] at h
    cases hd : decU m with
    | none => rw [hd] at h; exact Option.some.inj h
    | some p =>
      obtain ⟨X, r⟩ := p
      rw [hd] at h
      simp only at h ⊢
      split at h
      · cases h
      · split at h
        · rename_i hx
          rw [if_pos hx]
          exact Option.some.inj h
        · rename_i hx
          rw [if_neg hx]
          exact Option.some.inj h
  · unfold sOne at h
    rw [if_neg (by omega), if_neg (by omega), if_neg (by omega), if_neg (by omega)] at h
    unfold decD
    simp only
    split at h
    · rename_i hx
      rw [if_pos hx]
      exact Option.some.inj h
    · rename_i hx
      rw [if_neg hx]
      exact Option.some.inj h
theorem huge_one {k N : Nat} {m r : List UInt8} {X : Nat} (hk : k = 10 ∨ k = 11) (h : sOne k N m ≠ none) (hd : decU m = some (X, r)) : X < 2147483648 := by
  apply Classical.byContradiction
  intro hx
  apply h
  unfold sOne
  rw [if_neg (by omega), if_neg (by omega), if_neg (by omega), if_pos (by omega), hd]
  simp only
  rw [if_pos (by omega)]

/-- numbers of Uvarint32 fit -/
def Small7 (K : List (Nat × Nat)) (xs : List ((Int × List UInt8) × Nat)) : Prop := ∀ i (hi : i < xs.length), (K.getD i (0, 0)).1 = 7 → xs[i].1.1 < 4294967296

theorem runS_pre (K : List (Nat × Nat)) (m : List UInt8) (k : Nat) : ∃ ys, (runS K m).1 = (runS (K.take k) m).1 ++ ys := by
  have e : runS K m = (K.drop k).foldl stepS (runS (K.take k) m) := by
    unfold runS
    rw [← List.foldl_append, List.take_append_drop]
  rw [e]
  generalize runS (K.take k) m = st
  generalize K.drop k = L
  induction L generalizing st with
  | nil => exact ⟨[], by simp⟩
  | cons x L ih =>
    obtain ⟨ys, h⟩ := ih (stepS st x)
    have : ∃ zs, (stepS st x).1 = st.1 ++ zs := by
      unfold stepS
      split
      · split
        · exact ⟨[], by simp⟩
        · exact ⟨[], by simp⟩
        · exact ⟨_, rfl⟩
      · exact ⟨[], by simp⟩
    obtain ⟨zs, hz⟩ := this
    exact ⟨zs ++ ys, by rw [List.foldl_cons, h, hz, List.append_assoc]⟩
theorem runS_len {K : List (Nat × Nat)} {m m' : List UInt8} (h : (runS K m).2 = some (some m')) : (runS K m).1.length = K.length := by
  have H : ∀ k, k ≤ K.length → ∀ m1, (runS (K.take k) m).2 = some (some m1) → (runS (K.take k) m).1.length = k := by
    intro k
    induction k with
    | zero => intro _ _ _; rfl
    | succ k ih =>
      intro hk m1 h1
      have e : K.take (k + 1) = K.take k ++ [K[k]'(by omega)] := take_next (by omega)
      rw [e, runS_snoc] at h1 ⊢
      cases h2 : (runS (K.take k) m).2 with
      | none => unfold stepS at h1; rw [h2] at h1; simp only at h1; rw [h2] at h1; cases h1
      | some o =>
        cases o with
        | none => unfold stepS at h1; rw [h2] at h1; simp only at h1; rw [h2] at h1; cases h1
        | some m2 =>
          have := ih (by omega) m2 h2
          unfold stepS at h1 ⊢
          rw [h2] at h1 ⊢
          simp only at h1 ⊢
          cases h3 : sOne (K[k]'(by omega)).1 (K[k]'(by omega)).2 m2 with
          | none => rw [h3] at h1; cases h1
          | some o2 =>
            cases o2 with
            | none => rw [h3] at h1; cases h1
            | some p => obtain ⟨d, r⟩ := p; rw [List.length_append, this]; rfl
  have := H K.length (Nat.le_refl _) m' (by rw [List.take_length]; exact h)
  rwa [List.take_length] at this
theorem runS_le (K : List (Nat × Nat)) (m : List UInt8) : (runS K m).1.length ≤ K.length := by
  unfold runS
  have H : ∀ (L : List (Nat × Nat)) (st : SSts), (L.foldl stepS st).1.length ≤ st.1.length + L.length := by
    intro L
    induction L with
    | nil => intro st; exact Nat.le_refl _
    | cons x L ih =>
      intro st
      have h1 := ih (stepS st x)
      have h2 : (stepS st x).1.length ≤ st.1.length + 1 := by
        unfold stepS
        split
        · split
          · exact Nat.le_succ _
          · exact Nat.le_succ _
          · simp
        · exact Nat.le_succ _
      rw [List.foldl_cons, List.length_cons]
      omega
  exact Nat.le_trans (H K ([], some (some m))) (by simp)
theorem run_both (K : List (Nat × Nat)) (m : List UInt8) (hK : ∀ x ∈ K, x.1 ≤ 12) (h7 : Small7 K (runS K m).1) (hn : (runS K m).2 ≠ none) :
    ∀ k, k ≤ K.length → (runS (K.take k) m).2 ≠ none ∧ (runD (K.take k) m).1 = (runS (K.take k) m).1 ∧ (∀ o, (runS (K.take k) m).2 = some o → (runD (K.take k) m).2 = o) := by
  intro k
  induction k with
  | zero => intro _; exact ⟨(by rw [List.take_zero]; intro h; cases h), rfl, fun o h => by rw [List.take_zero] at h ⊢; exact Option.some.inj h⟩
  | succ k ih =>
    intro hk
    obtain ⟨i1, i2, i3⟩ := ih (by omega)
    have e : K.take (k + 1) = K.take k ++ [K[k]'(by omega)] := take_next (by omega)
    have hns : (runS (K.take (k + 1)) m).2 ≠ none := by
      intro h
      apply hn
      rw [runS_stuck K (k + 1) m (fun m' h' => by rw [h] at h'; cases h'), h]
    refine ⟨hns, ?_⟩
    obtain ⟨ys, hys⟩ := runS_pre K m (k + 1)
    rw [e, runS_snoc] at hns hys ⊢
    rw [runD_snoc]
    cases h2 : (runS (K.take k) m).2 with
    | none => exact absurd h2 i1
    | some o =>
      have hD := i3 o h2
      cases o with
      | none =>
        unfold stepS stepD
        rw [h2, hD]
        exact ⟨i2, fun o h => by simp only at h; rw [h2] at h; rw [hD]; exact Option.some.inj h⟩
      | some m2 =>
        have hl : (runS (K.take k) m).1.length = k := by rw [runS_len h2, List.length_take]; omega
        unfold stepS at hns hys ⊢
        unfold stepD
        rw [h2] at hns hys ⊢
        rw [hD]
        simp only at hns hys ⊢
        cases h3 : sOne (K[k]'(by omega)).1 (K[k]'(by omega)).2 m2 with
        | none => rw [h3] at hns; exact absurd rfl hns
        | some o2 =>
          have hS := one_same (hK _ (List.getElem_mem _)) h3 (fun hk7 d r ho => by
            subst ho
            rw [h3] at hys
            simp only at hys
            have g := h7 k (by rw [hys]; simp; omega) (by simp [List.getD_eq_getElem?_getD, List.getElem?_eq_getElem (show k < K.length by omega), hk7])
            have : ((runS K m).1[k]'(by rw [hys]; simp; omega)) = (d, r.length) := by
              have h5 : (runS K m).1[k]? = some (d, r.length) := by rw [hys]; simp [hl]
              rw [List.getElem?_eq_getElem (by rw [hys]; simp; omega)] at h5
              exact Option.some.inj h5
            rw [this] at g
            exact g)
          rw [hS]
          cases o2 with
          | none => exact ⟨i2, fun o h => Option.some.inj h⟩
          | some p =>
            obtain ⟨d, r⟩ := p
            exact ⟨by simp only [i2], fun o h => Option.some.inj h⟩
theorem run_fine (K : List (Nat × Nat)) (m : List UInt8) (hK : ∀ x ∈ K, x.1 ≤ 12) (h7 : Small7 K (runS K m).1) (hn : (runS K m).2 ≠ none) : NoHuge K m := by
  intro k hk m2 h2 h10 X r hX
  obtain ⟨i1, i2, i3⟩ := run_both K m hK h7 hn k (by omega)
  obtain ⟨j1, _, _⟩ := run_both K m hK h7 hn (k + 1) (by omega)
  have e : K.take (k + 1) = K.take k ++ [K[k]'(by omega)] := take_next (by omega)
  cases h : (runS (K.take k) m).2 with
  | none => exact absurd h i1
  | some o =>
    have := i3 o h
    rw [this] at h2
    subst h2
    refine huge_one h10 (N := K[k].2) (m := m2) (fun hc => ?_) hX
    apply j1
    rw [e, runS_snoc]
    unfold stepS
    rw [h]
    simp only [hc]
theorem run_eq (K : List (Nat × Nat)) (m : List UInt8) (hK : ∀ x ∈ K, x.1 ≤ 12) (h7 : Small7 K (runS K m).1) (o : Option (List UInt8)) (hn : (runS K m).2 = some o) : runD K m = ((runS K m).1, o) := by
  obtain ⟨_, i2, i3⟩ := run_both K m hK h7 (by rw [hn]; intro h; cases h) K.length (Nat.le_refl _)
  rw [List.take_length] at i2 i3
  exact Prod.ext i2 (i3 o hn)
end Go.Proofs.YtkbkggamfkadnaaGreatDoor
namespace Go.Proofs.YtkbkggamfkadnaaGreatDoor
set_option linter.unusedSimpArgs false
set_option linter.unusedVariables false
open Go.RowKit

theorem conv_allN (w : World) (v : Value) (l : List UInt8) (h : Bytes w v l) (s : ByteArray) (hs : strOfNums (l.map fun b => (b.toNat : Int)) = s) (q : Nat) :
    (convert 22 9 v).run Tryz.prog (w.drewN q) = .ok (.string s) (w.drewN q) := conv_all _ v l (h.up (below_drewN (Below.refl _ _) q)) s hs

/-- data in memory: kind, number, bytes -/
def DRow (W : World) (K : List (Int × Int × Value)) (xs : List ((Int × List UInt8) × Nat)) (b off : Nat) : Prop :=
  ∀ i (hi : i < xs.length), ∃ sa sc, W.cell? ⟨b, off + i * 3, none⟩ = some (.int .i64 (K.getD i (0, 0, undef)).1) ∧ W.cell? ⟨b, off + i * 3 + 1, none⟩ = some (.int .u64 xs[i].1.1) ∧ W.cell? ⟨b, off + i * 3 + 2, none⟩ = some (.slice sa xs[i].1.2.length sc) ∧ Bytes W (.slice sa xs[i].1.2.length sc) xs[i].1.2
def LRow (W : World) (xs : List ((Int × List UInt8) × Nat)) (b off : Nat) : Prop := ∀ i (hi : i < xs.length), W.cell? ⟨b, off + i, none⟩ = some (.int .i64 xs[i].2)
theorem own_at {W : World} {base size n : Nat} {e : TypeId} {a : Option Addr} {c : Nat} {Ls : List Value} (h : W.ownsRow base e size (.slice a n c) n Ls) (hn : 0 < n) (hs : 0 < size) :
    ∃ b off, a = some ⟨b, off, none⟩ ∧ base ≤ b ∧ b < W.heap.size ∧ ∀ j, j < Ls.length → W.cell? ⟨b, off + j, none⟩ = Ls[j]? := by
  obtain ⟨hl, ⟨h1, h2⟩ | ⟨g, cap, cur, h1, h2, h3, h4, h5, h6, h7⟩⟩ := h
  · omega
  · injection h1 with h1 _ h1'
    refine ⟨g, 0, h1, h2, (Array.getElem?_eq_some_iff.1 h3).1, fun j hj => ?_⟩
    have e : W.cell? ⟨g, j, none⟩ = cur[j]? := by simp [World.cell?, h3]
    rw [Nat.zero_add, e, ← h7, List.getElem?_take_of_lt (by omega), Array.getElem?_toList]
theorem want_at {W : World} {base B n : Nat} {K : List (Int × Int × Value)} {xs : List ((Int × List UInt8) × Nat)} {a : Option Addr} {c : Nat} {Ls Fs : List Value} (h : W.ownsRow base DaT 3 (.slice a n c) n Ls) (hx : SsOk W B K xs Ls Fs) (hn : xs.length = n) (h0 : 0 < n) (hB : B ≤ W.heap.size) :
    ∃ b off, a = some ⟨b, off, none⟩ ∧ base ≤ b ∧ b < W.heap.size ∧ DRow W K xs b off := by
  obtain ⟨b, off, h1, h2, h3, h4⟩ := own_at h h0 (by omega)
  refine ⟨b, off, h1, h2, h3, fun i hi => ?_⟩
  obtain ⟨sv, a1, a2, a3, a4, a5⟩ := hx.2.2 i hi
  have hLl := hx.1
  obtain ⟨sa, sc, rfl, _, _⟩ := a4.form
  refine ⟨sa, sc, ?_, ?_, ?_, Sl.mono a4 hB (Nat.le_refl _)⟩
  · rw [h4 (i * 3) (by omega)]; exact a1
  · rw [Nat.add_assoc, h4 (i * 3 + 1) (by omega)]; exact a2
  · rw [Nat.add_assoc, h4 (i * 3 + 2) (by omega)]; exact a3
theorem got_at {W : World} {base n : Nat} {K : List (Int × Int × Value)} {xs : List ((Int × List UInt8) × Nat)} {a : Option Addr} {c : Nat} {Ls Fs : List Value} (h : W.ownsRow base DaT 3 (.slice a n c) n Ls) (hx : XsOk W K xs Ls Fs) (hn : xs.length ≤ n) (h0 : 0 < n) :
    ∃ b off, a = some ⟨b, off, none⟩ ∧ base ≤ b ∧ b < W.heap.size ∧ DRow W K xs b off := by
  obtain ⟨b, off, h1, h2, h3, h4⟩ := own_at h h0 (by omega)
  refine ⟨b, off, h1, h2, h3, fun i hi => ?_⟩
  obtain ⟨sv, a1, a2, a3, a4, a5⟩ := hx i hi
  have hLl : Ls.length = n * 3 := h.1
  obtain ⟨sa, sc, rfl, _, _⟩ := a4.1.form
  refine ⟨sa, sc, ?_, ?_, ?_, a4.1⟩
  · rw [h4 (i * 3) (by omega)]; exact a1
  · rw [Nat.add_assoc, h4 (i * 3 + 1) (by omega)]; exact a2
  · rw [Nat.add_assoc, h4 (i * 3 + 2) (by omega)]; exact a3
theorem ints_at {W : World} {base n : Nat} {xs : List ((Int × List UInt8) × Nat)} {a : Option Addr} {c : Nat} {Fs : List Value} (h : W.ownsRow base 3 1 (.slice a n c) n Fs) (hx : ∀ i (hi : i < xs.length), Fs[i]? = some (.int .i64 xs[i].2)) (hn : xs.length ≤ n) (h0 : 0 < n) :
    ∃ b off, a = some ⟨b, off, none⟩ ∧ base ≤ b ∧ b < W.heap.size ∧ LRow W xs b off := by
  obtain ⟨b, off, h1, h2, h3, h4⟩ := own_at h h0 (by omega)
  have hLl : Fs.length = n * 1 := h.1
  exact ⟨b, off, h1, h2, h3, fun i hi => by rw [h4 i (by omega)]; exact hx i hi⟩
theorem DRow.below {W W' : World} {K : List (Int × Int × Value)} {xs : List ((Int × List UInt8) × Nat)} {b off : Nat} (h : DRow W K xs b off) (hb : Below W.heap.size W W') (hB : b < W.heap.size) : DRow W' K xs b off := fun i hi =>
  let ⟨sa, sc, a1, a2, a3, a4⟩ := h i hi
  ⟨sa, sc, (hb.cell (p := ⟨b, off + i * 3, none⟩) hB).trans a1, (hb.cell (p := ⟨b, off + i * 3 + 1, none⟩) hB).trans a2, (hb.cell (p := ⟨b, off + i * 3 + 2, none⟩) hB).trans a3, a4.up hb⟩
theorem LRow.below {W W' : World} {xs : List ((Int × List UInt8) × Nat)} {b off : Nat} (h : LRow W xs b off) (hb : Below W.heap.size W W') (hB : b < W.heap.size) : LRow W' xs b off := fun i hi => (hb.cell (p := ⟨b, off + i, none⟩) hB).trans (h i hi)

/-- what is behind spec.Decode: the data, in memory -/
structure Want (w0 W : World) (K : List (Int × Int × Value)) (xs : List ((Int × List UInt8) × Nat)) (ov lv : Value) : Prop where
  bel : Below w0.heap.size w0 W
  o : ∃ a c, ov = .slice a xs.length c ∧ (0 < xs.length → ∃ b off, a = some ⟨b, off, none⟩ ∧ b < W.heap.size ∧ DRow W K xs b off)
  l : ∃ a c, lv = .slice a xs.length c ∧ (0 < xs.length → ∃ b off, a = some ⟨b, off, none⟩ ∧ b < W.heap.size ∧ LRow W xs b off)
/-- which one is not there -/
def atOf (o : Option (Option (List UInt8))) (n : Nat) : Int := match o with | some (some _) => -1 | some none => (n : Int) | none => -2
theorem atOf_ne (o : Option (List UInt8)) (n : Nat) : (atOf (some o) n == -2) = false := by
  cases o <;> simp [atOf]
theorem SPost.want {w w' : World} {l : List UInt8} {K : List (Int × Int × Value)} {e : Ending} (h : SPost w l K e w') : ∃ ov lv, e = .returned (.tuple #[ov, lv, .int .i64 (atOf (runS (K.map kn) l).2 (runS (K.map kn) l).1.length)]) ∧ Want w w' K (runS (K.map kn) l).1 ov lv := by
  obtain ⟨ov, lv, Ls, Fs, rfl, hb, h1, h2, h3⟩ := h
  refine ⟨ov, lv, rfl, hb, ?_, ?_⟩
  · obtain ⟨a, c, rfl⟩ := own_form h1
    exact ⟨a, c, rfl, fun h0 => let ⟨b, off, g1, _, g2, g3⟩ := want_at h1 h3 rfl h0 hb.size; ⟨b, off, g1, g2, g3⟩⟩
  · obtain ⟨a, c, rfl⟩ := own_form h2
    exact ⟨a, c, rfl, fun h0 => let ⟨b, off, g1, _, g2, g3⟩ := ints_at h2 (fun i hi => let ⟨_, _, _, _, _, a5⟩ := h3.2.2 i hi; a5) (Nat.le_refl _) h0; ⟨b, off, g1, g2, g3⟩⟩
/-- what is behind impl.Decode -/
structure Got (w0 W : World) (K : List (Int × Int × Value)) (xs : List ((Int × List UInt8) × Nat)) (n : Nat) (lv fv : Value) : Prop where
  bel : Below w0.heap.size w0 W
  le : xs.length ≤ n
  o : ∃ a c, lv = .slice a n c ∧ (0 < n → ∃ b off, a = some ⟨b, off, none⟩ ∧ b < W.heap.size ∧ DRow W K xs b off)
  l : ∃ a c, fv = .slice a n c ∧ (0 < n → ∃ b off, a = some ⟨b, off, none⟩ ∧ b < W.heap.size ∧ LRow W xs b off)
theorem DInv.got {w W : World} {D P : Nat} {K : List (Int × Int × Value)} {l : List UInt8} {lv fv : Value} {wr : Int} {xs : List ((Int × List UInt8) × Nat)} {o : Option (List UInt8)} (h : DInv w D P K l K.length lv fv wr W) (hr : runD (K.map kn) l = (xs, o)) : Got w W K xs K.length lv fv ∧ wr = atOf (some o) xs.length := by
  obtain ⟨hb, _, hd, Ls, Fs, h1, h2, h3⟩ := h
  rw [List.take_length, hr] at hd h3
  have hle : xs.length ≤ K.length := by
    rcases hd with ⟨m, _, _, _, _, h⟩ | ⟨_, _, _, h⟩
    · exact Nat.le_of_eq h
    · exact Nat.le_of_lt h
  refine ⟨⟨hb, hle, ?_, ?_⟩, ?_⟩
  · obtain ⟨a, c, rfl⟩ := own_form h1
    exact ⟨a, c, rfl, fun h0 => let ⟨b, off, g1, _, g2, g3⟩ := got_at h1 h3 hle h0; ⟨b, off, g1, g2, g3⟩⟩
  · obtain ⟨a, c, rfl⟩ := own_form h2
    exact ⟨a, c, rfl, fun h0 => let ⟨b, off, g1, _, g2, g3⟩ := ints_at h2 (fun i hi => let ⟨_, _, _, _, _, a5⟩ := h3 i hi; a5) hle h0; ⟨b, off, g1, g2, g3⟩⟩
  · rcases hd with ⟨m, h, _, _, h5, _⟩ | ⟨h, _, h5, _⟩
    · simp only at h; subst h; exact h5
    · simp only at h; subst h; exact h5
set_option maxRecDepth 100000 in
theorem errv_of {w : World} (h : laidMetH Tryz.prog Rows.fnDecodeRow.laid w) : ErrV w := by
  rw [MakeChecks.laidMetH_plain _ _ _ (by kernel_rfl)] at h
  obtain ⟨a, s, a1, a2, a3, a4⟩ := sentinel_at h (List.mem_of_getElem? (show Rows.fnDecodeRow.laid[0]? = some ("pub-quillon/pub/prometheus/tsdb/encoding.ErrInvalidSize", .iface "*errors.errorString" (.ptr (.agg [.lit (.string [105, 110, 118, 97, 108, 105, 100, 32, 115, 105, 122, 101])]))) from rfl)) (g := EG) (by kernel_rfl) (by kernel_rfl)
  exact ⟨_, _, a1⟩
end Go.Proofs.YtkbkggamfkadnaaGreatDoor
