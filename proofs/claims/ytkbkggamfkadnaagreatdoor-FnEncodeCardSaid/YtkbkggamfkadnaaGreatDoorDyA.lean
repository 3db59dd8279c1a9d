/-
  Data got one behind the other: plain. impl.Decode: data are got one behind the other.
-/
import Derived.Test.YtkbkggamfkadnaaGreatDoorDxB
namespace Go.Proofs.YtkbkggamfkadnaaGreatDoor
set_option linter.unusedSimpArgs false
set_option linter.unusedVariables false
open Go.RowKit

/-- the data so far, how many bytes are left behind each one; what is left, if there was no error -/
abbrev DSts := List ((Int × List UInt8) × Nat) × Option (List UInt8)
def stepD (st : DSts) (kn : Nat × Nat) : DSts :=
  match st.2 with
  | none => st
  | some m => match decD kn.1 kn.2 m with
    | some (d, r) => (st.1 ++ [(d, r.length)], some r)
    | none => (st.1, none)
def runD (K : List (Nat × Nat)) (m : List UInt8) : DSts := K.foldl stepD ([], some m)
theorem runD_snoc (K : List (Nat × Nat)) (x : Nat × Nat) (m : List UInt8) : runD (K ++ [x]) m = stepD (runD K m) x := by unfold runD; rw [List.foldl_append]; rfl
theorem decB_len {k : Nat} {m r : List UInt8} {x : Nat} (h : decB k m = some (x, r)) : r.length ≤ m.length := (decB_lt h).2
theorem decU_len {m r : List UInt8} {x : Nat} (h : decU m = some (x, r)) : r.length ≤ m.length := by
  obtain ⟨_, _, rfl⟩ := decU_some h
  rw [List.length_drop]
  omega
theorem decS_len2 {m s r : List UInt8} (h : decS m = some (s, r)) : r.length ≤ m.length := by
  unfold decS at h
  split at h
  · cases h
  · rename_i X r' hd
    split at h
    · injection h with h
      injection h with h1 h2
      subst h2
      have := decU_len hd
      rw [List.length_drop]
      omega
    · cases h
theorem map_some {α β : Type} {o : Option α} {f : α → β} {y : β} (h : o.map f = some y) : ∃ x, o = some x ∧ f x = y := by
  cases o with
  | none => cases h
  | some x => exact ⟨x, rfl, by simpa using h⟩
theorem decD_len {k N : Nat} {m r : List UInt8} {d : Int × List UInt8} (h : decD k N m = some (d, r)) : r.length ≤ m.length := by
  match k, h with
  | 0, h => obtain ⟨x, hx, he⟩ := map_some h; cases he; exact decB_len hx
  | 1, h => obtain ⟨x, hx, he⟩ := map_some h; cases he; exact decB_len hx
  | 2, h => obtain ⟨x, hx, he⟩ := map_some h; cases he; exact decB_len hx
  | 3, h => obtain ⟨x, hx, he⟩ := map_some h; cases he; exact decB_len hx
  | 4, h => obtain ⟨x, hx, he⟩ := map_some h; cases he; exact decB_len hx
  | 5, h => obtain ⟨x, hx, he⟩ := map_some h; cases he; exact decB_len hx
  | 6, h => obtain ⟨x, hx, he⟩ := map_some h; cases he; exact decU_len hx
  | 7, h => obtain ⟨x, hx, he⟩ := map_some h; cases he; exact decU_len hx
  | 8, h => obtain ⟨x, hx, he⟩ := map_some h; cases he; exact decU_len hx
  | 9, h => obtain ⟨x, hx, he⟩ := map_some h; cases he; exact decU_len hx
  | 10, h => obtain ⟨x, hx, he⟩ := map_some h; cases he; exact decS_len2 hx
  | 11, h => obtain ⟨x, hx, he⟩ := map_some h; cases he; exact decS_len2 hx
  | 12, h =>
    simp only [decD] at h
    split at h
    · injection h with h
      injection h with _ h
      subst h
      rw [List.length_drop]
      omega
    · cases h
  | k + 13, h => cases h
/-- data that are read: kind, number, bytes (as a value) -/
def Dats (w : World) (B : Nat) (v : Value) (K : List (Int × Int × Value)) : Prop :=
  Sl w B 3 v K.length fun i => if i % 3 = 0 then .int .i64 (K.getD (i / 3) (0, 0, undef)).1 else if i % 3 = 1 then .int .u64 (K.getD (i / 3) (0, 0, undef)).2.1 else (K.getD (i / 3) (0, 0, undef)).2.2
theorem Dats.form {w : World} {B : Nat} {v : Value} {K : List (Int × Int × Value)} (h : Dats w B v K) : ∃ ao cap, v = .slice ao K.length cap ∧ K.length ≤ cap ∧ cap ≤ maxLen := Sl.form h
theorem Dats.at_ {w : World} {B : Nat} {ao : Option Addr} {n cap : Nat} {K : List (Int × Int × Value)} (h : Dats w B (.slice ao n cap) K) (hn : 0 < K.length) :
    ∃ b off, ao = some ⟨b, off, none⟩ ∧ b < B ∧ B ≤ w.heap.size ∧ ∀ i (hi : i < K.length), w.cell? ⟨b, off + i * 3, none⟩ = some (.int .i64 K[i].1) ∧ w.cell? ⟨b, off + i * 3 + 1, none⟩ = some (.int .u64 K[i].2.1) ∧ w.cell? ⟨b, off + i * 3 + 2, none⟩ = some K[i].2.2 := by
  obtain ⟨b, off, h1, h2, h2', h3⟩ := Sl.at_ h hn
  refine ⟨b, off, h1, h2, h2', fun i hi => ⟨?_, ?_, ?_⟩⟩
  · rw [h3 (i * 3) (by omega)]
    have e1 : i * 3 % 3 = 0 := by omega
    have e2 : i * 3 / 3 = i := by omega
    simp [e1, e2, hi]
  · rw [Nat.add_assoc, h3 (i * 3 + 1) (by omega)]
    have e1 : (i * 3 + 1) % 3 = 1 := by omega
    have e2 : (i * 3 + 1) / 3 = i := by omega
    simp [e1, e2, hi]
  · rw [Nat.add_assoc, h3 (i * 3 + 2) (by omega)]
    have e1 : (i * 3 + 2) % 3 = 2 := by omega
    have e2 : (i * 3 + 2) / 3 = i := by omega
    simp [e1, e2, hi]
/-- kinds of data: a kind that there is, a number that is not too great, a slice -/
def KindsOk (K : List (Int × Int × Value)) : Prop := ∀ x ∈ K, 0 ≤ x.1 ∧ x.1 ≤ 12 ∧ 0 ≤ x.2.1 ∧ x.2.1 ≤ 4294967296 ∧ ∃ a n c, x.2.2 = .slice a n c
def kn (x : Int × Int × Value) : Nat × Nat := (x.1.toNat, x.2.1.toNat)
/-- no length of 2^31 bytes or more is told -/
def NoHuge (K : List (Nat × Nat)) (m0 : List UInt8) : Prop := ∀ k (hk : k < K.length) m, (runD (K.take k) m0).2 = some m → K[k].1 = 10 ∨ K[k].1 = 11 → ∀ X r, decU m = some (X, r) → X < 2147483648
end Go.Proofs.YtkbkggamfkadnaaGreatDoor
namespace Go.Proofs.YtkbkggamfkadnaaGreatDoor
set_option linter.unusedSimpArgs false
set_option linter.unusedVariables false
open Go.RowKit

/-- the cells of data that were got -/
def XsOk (W : World) (K : List (Int × Int × Value)) (xs : List ((Int × List UInt8) × Nat)) (Ls Fs : List Value) : Prop :=
  ∀ i (hi : i < xs.length), ∃ sv, Ls[i * 3]? = some (.int .i64 (K.getD i (0, 0, undef)).1) ∧ Ls[i * 3 + 1]? = some (.int .u64 xs[i].1.1) ∧ Ls[i * 3 + 2]? = some sv ∧ OB W sv xs[i].1.2 ∧ Fs[i]? = some (.int .i64 xs[i].2)
/-- the Decbuf and the answer so far -/
def DecSt (D : Nat) (W : World) (st : DSts) (k : Nat) (wr : Int) : Prop :=
  (∃ m, st.2 = some m ∧ m.length ≤ 2147483647 ∧ DSt D W m .nilIface ∧ wr = -1 ∧ st.1.length = k) ∨ (st.2 = none ∧ (∃ m t u, m.length ≤ 2147483647 ∧ DSt D W m (.iface t u)) ∧ wr = st.1.length ∧ st.1.length < k)
structure DInv (w : World) (D P : Nat) (K : List (Int × Int × Value)) (m0 : List UInt8) (k : Nat) (lv fv : Value) (wr : Int) (W : World) : Prop where
  bel : Below w.heap.size w W
  pb : Blk W P [.pointer (some ⟨D, 0, none⟩)] 55
  dec : DecSt D W (runD ((K.take k).map kn) m0) k wr
  rows : ∃ Ls Fs, W.ownsRow (D + 1) DaT 3 lv k Ls ∧ W.ownsRow (D + 1) 3 1 fv k Fs ∧ XsOk W K (runD ((K.take k).map kn) m0).1 Ls Fs
theorem infoDat : (Tryz.prog.info? DaT).map (fun i => (i.zero, i.size, i.bytes)) = some (some (.agg #[.int .i64 0, .int .u64 0, .slice none 0 0]), 3, 40) := by kernel_rfl
theorem infoInt : (Tryz.prog.info? 3).map (fun i => (i.zero, i.size, i.bytes)) = some (some (.int .i64 0), 1, 8) := by kernel_rfl

/-- how a Decbuf is behind one more datum -/
def DNext (D : Nat) (W : World) (E : Value) (o : Option ((Int × List UInt8) × List UInt8)) (n : Int) (sv : Value) (m' : List UInt8) (E' : Value) : Prop :=
  DSt D W m' E' ∧ m'.length ≤ 2147483647 ∧ ((E' = .nilIface ∧ E = .nilIface ∧ ∃ s, o = some ((n, s), m') ∧ OB W sv s) ∨ ((∃ t u, E' = .iface t u) ∧ (E ≠ .nilIface ∨ o = none)))
theorem GAll.next {D : Nat} {W : World} {E : Value} {m : List UInt8} {k N : Nat} {n : Int} {sv : Value} (h : GAll D W E (decD k N m) n sv) (hl : m.length ≤ 2147483647) : ∃ m' E', DNext D W E (decD k N m) n sv m' E' := by
  rcases h with ⟨s, r, h1, h2, h3, h4⟩ | ⟨h1, m1, t, u, h2, h3⟩
  · exact ⟨r, .nilIface, h4, by have := decD_len h2; omega, .inl ⟨rfl, h1, s, h2, h3⟩⟩
  · exact ⟨m1, _, h3, h2, .inr ⟨⟨t, u, rfl⟩, h1⟩⟩
theorem DNext.chg {D : Nat} {w w' : World} {E : Value} {o : Option ((Int × List UInt8) × List UInt8)} {n : Int} {sv : Value} {m' : List UInt8} {E' : Value} (h : DNext D w E o n sv m' E') {S : Nat → Prop} (hc : Chg S w w') (hs : ∀ k, k ≤ D → ¬ S k) (hS : ∀ k cs fr, w.heap[k]? = some (.cells cs 5 fr) → ¬ S k) : DNext D w' E o n sv m' E' := by
  obtain ⟨h1, h2, h3⟩ := h
  refine ⟨h1.chg hc hs, h2, ?_⟩
  rcases h3 with ⟨a, b, s, c, d⟩ | h3
  · exact .inl ⟨a, b, s, c, d.chg hc hS⟩
  · exact .inr h3
theorem XsOk.chg {w w' : World} {K : List (Int × Int × Value)} {xs : List ((Int × List UInt8) × Nat)} {Ls Fs : List Value} (h : XsOk w K xs Ls Fs) {S : Nat → Prop} (hc : Chg S w w') (hS : ∀ k cs fr, w.heap[k]? = some (.cells cs 5 fr) → ¬ S k) : XsOk w' K xs Ls Fs := fun i hi =>
  let ⟨sv, h1, h2, h3, h4, h5⟩ := h i hi
  ⟨sv, h1, h2, h3, h4.chg hc hS, h5⟩
theorem DInv.next {w W : World} {D P k : Nat} {K : List (Int × Int × Value)} {l m : List UInt8} {v1 v2 : Value} {wr wr' : Int} {E E' : Value} {n : Int} {sv : Value} {m' : List UInt8} {Ls Fs : List Value} {kk N : Nat} (hlt : k < K.length) (hk : (K[k]).1 = (kk : Int)) (hN : (K[k]).2.1 = (N : Int))
    (hb : Below w.heap.size w W) (hp : Blk W P [.pointer (some ⟨D, 0, none⟩)] 55)
    (hst : (E = .nilIface ∧ (runD ((K.take k).map kn) l).2 = some m ∧ wr = -1 ∧ (runD ((K.take k).map kn) l).1.length = k) ∨ (E ≠ .nilIface ∧ (runD ((K.take k).map kn) l).2 = none ∧ wr = (runD ((K.take k).map kn) l).1.length ∧ (runD ((K.take k).map kn) l).1.length < k))
    (hd : DNext D W E (decD kk N m) n sv m' E') (hx : XsOk W K (runD ((K.take k).map kn) l).1 Ls Fs) (hL : Ls.length = k * 3) (hF : Fs.length = k)
    (h1 : W.ownsRow (D + 1) DaT 3 v1 (k + 1) (Ls ++ [.int .i64 kk, .int .u64 n, sv])) (h2 : W.ownsRow (D + 1) 3 1 v2 (k + 1) (Fs ++ [.int .i64 (m'.length : Int)]))
    (hw : (wr < 0 ∧ E' ≠ .nilIface → wr' = k) ∧ (¬ (wr < 0 ∧ E' ≠ .nilIface) → wr' = wr)) : DInv w D P K l (k + 1) v1 v2 wr' W := by
  have htk : (K.take (k + 1)).map kn = (K.take k).map kn ++ [(kk, N)] := by
    rw [take_next hlt, List.map_append]
    simp [kn, hk, hN]
  have hrun : runD ((K.take (k + 1)).map kn) l = stepD (runD ((K.take k).map kn) l) (kk, N) := by rw [htk, runD_snoc]
  generalize runD ((K.take k).map kn) l = st at *
  obtain ⟨d1, d2, d3⟩ := hd
  rcases hst with ⟨rfl, s1, s2, s3⟩ | ⟨s0, s1, s2, s3⟩
  · rcases d3 with ⟨rfl, _, s, e1, e2⟩ | ⟨⟨t, u, rfl⟩, e1⟩
    · have hr : runD ((K.take (k + 1)).map kn) l = (st.1 ++ [((n, s), m'.length)], some m') := by
        rw [hrun]
        unfold stepD
        rw [s1]
        simp only [e1]
      refine ⟨hb, hp, .inl ⟨m', by rw [hr], d2, d1, by rw [hw.2 (by simp)]; exact s2, by rw [hr, List.length_append, s3]; rfl⟩, _, _, h1, h2, ?_⟩
      rw [hr]
      intro i hi
      simp only [List.length_append, List.length_cons, List.length_nil] at hi
      by_cases hik : i < k
      · obtain ⟨v, a1, a2, a3, a4, a5⟩ := hx i (by omega)
        refine ⟨v, by rw [List.getElem?_append_left (by omega)]; exact a1, ?_, by rw [List.getElem?_append_left (by omega)]; exact a3, ?_, ?_⟩
        · rw [List.getElem?_append_left (by omega), a2, List.getElem_append_left (by omega)]
        · rw [List.getElem_append_left (by omega)]; exact a4
        · rw [List.getElem?_append_left (by omega), a5, List.getElem_append_left (by omega)]
      · obtain rfl : i = k := by omega
        have g : (st.1 ++ [((n, s), m'.length)])[i]'(by simp; omega) = ((n, s), m'.length) := by
          rw [List.getElem_append_right (by omega)]
          simp [s3]
        refine ⟨sv, ?_, ?_, ?_, ?_, ?_⟩
        · rw [List.getElem?_append_right (by omega), hL]
          simp [List.getD_eq_getElem?_getD, hlt, hk]
        · rw [List.getElem?_append_right (by omega), hL, g]
          simp
        · rw [List.getElem?_append_right (by omega), hL]
          simp
        · rw [g]; exact e2
        · rw [List.getElem?_append_right (by omega), hF, g]
          simp
    · have e2 : decD kk N m = none := e1.resolve_left (fun h => h rfl)
      have hr : runD ((K.take (k + 1)).map kn) l = (st.1, none) := by
        rw [hrun]
        unfold stepD
        rw [s1]
        simp only [e2]
      refine ⟨hb, hp, .inr ⟨by rw [hr], ⟨m', t, u, d2, d1⟩, ?_, by rw [hr]; simp only; omega⟩, _, _, h1, h2, ?_⟩
      · rw [hw.1 ⟨by omega, by simp⟩, hr]
        simp only
        omega
      · rw [hr]
        intro i hi
        obtain ⟨v, a1, a2, a3, a4, a5⟩ := hx i hi
        simp only at hi
        exact ⟨v, by rw [List.getElem?_append_left (by omega)]; exact a1, by rw [List.getElem?_append_left (by omega)]; exact a2, by rw [List.getElem?_append_left (by omega)]; exact a3, a4, by rw [List.getElem?_append_left (by omega)]; exact a5⟩
  · rcases d3 with ⟨_, e0, _⟩ | ⟨⟨t, u, rfl⟩, _⟩
    · exact absurd e0 s0
    · have hr : runD ((K.take (k + 1)).map kn) l = st := by
        rw [hrun]
        unfold stepD
        rw [s1]
      refine ⟨hb, hp, .inr ⟨by rw [hr]; exact s1, ⟨m', t, u, d2, d1⟩, ?_, by rw [hr]; omega⟩, _, _, h1, h2, ?_⟩
      · rw [hw.2 (by omega), hr]
        exact s2
      · rw [hr]
        intro i hi
        obtain ⟨v, a1, a2, a3, a4, a5⟩ := hx i hi
        exact ⟨v, by rw [List.getElem?_append_left (by omega)]; exact a1, by rw [List.getElem?_append_left (by omega)]; exact a2, by rw [List.getElem?_append_left (by omega)]; exact a3, a4, by rw [List.getElem?_append_left (by omega)]; exact a5⟩

set_option maxRecDepth 100000 in
set_option maxHeartbeats 8000000 in
theorem decode_any (v : Value) (l : List UInt8) (kv : Value) (K : List (Int × Int × Value)) (w : World) (hv : Bytes w v l) (hl : l.length ≤ 2147483647) (hK : Dats w w.heap.size kv K) (hKl : K.length ≤ 1000) (hk : KindsOk K) (hN : NoHuge (K.map kn) l) (hg : ErrV w) :
    Calls Tryz.prog 9 #[v, kv] w fun e w' => ∃ lv fv wr D P, e = .returned (.tuple #[lv, fv, .int .i64 wr]) ∧ DInv w D P K l K.length lv fv wr w' := by
  obtain ⟨a, c, rfl, h1, h2⟩ := hv.form
  obtain ⟨ka, kc, rfl, k1, k2⟩ := hK.form
  obtain ⟨a2, n2, c2, w2, hap, ho2, hc2⟩ := copy_into (w.alloc (.cells #[] 5)) w.heap.size _ l (heap_alloc_new w _) (hv.up (below_new w _)) hl
  have hmf := hmk
  have HAP := Lib.hid hap
  have HO := Lib.hid ho2
  clear hap ho2 hv
  go_enter Tryz.func9, Tryz.ntmps9
  go_wp2_with (first | (at_builtin; refine list_run 22 22 rfl (.tmp 11) (.tmp 12) rfl rfl rfl rfl HAP.out ?_) | fail)
  have hbl : Below w.heap.size w w2 := by
    have h := hc2.below w.heap.size (by simp) (fun q hq h => by omega)
    exact (below_new w _).trans h
  have hzw := hbl.size
  have hD0 := (Blk.new w2 [.slice a2 n2 c2, .nilIface] DT).alloc (.cells #[.pointer (some ⟨w2.heap.size, 0, none⟩)] 55)
  have hP0 := Blk.new (w2.alloc (.cells #[.slice a2 n2 c2, .nilIface] DT)) [.pointer (some ⟨w2.heap.size, 0, none⟩)] 55
  have hB0 := (below_new w2 (.cells #[.slice a2 n2 c2, .nilIface] DT)).alloc (by simp) (.cells #[.pointer (some ⟨w2.heap.size, 0, none⟩)] 55)
  have hz1 : (w2.alloc (.cells #[.slice a2 n2 c2, .nilIface] DT)).heap.size = w2.heap.size + 1 := by simp
  rw [hz1] at hP0
  have hI0 : DInv w w2.heap.size (w2.heap.size + 1) K l 0 (.slice none 0 0) (.slice none 0 0) (-1) ((w2.alloc (.cells #[.slice a2 n2 c2, .nilIface] DT)).alloc (.cells #[.pointer (some ⟨w2.heap.size, 0, none⟩)] 55)) := by
    refine ⟨bnx hbl hB0, hP0, .inl ⟨l, rfl, hl, ⟨_, hD0, Sl.below (Bytes.own HO.out) hB0 (Nat.le_refl _)⟩, rfl, rfl⟩, [], [], World.ownsRow_nil _ _ _ _, World.ownsRow_nil _ _ _ _, fun i hi => ?_⟩
    exact absurd hi (by show ¬ i < 0; omega)
  generalize w2.heap.size + 1 = P at *
  have hDw : w.heap.size ≤ w2.heap.size := hzw
  generalize w2.heap.size = D at *
  obtain ⟨i0, hi, hz0, hz1, hz2⟩ := info_parts infoDat
  obtain ⟨j0, hj, hy0, hy1, hy2⟩ := info_parts infoInt
  go_loopw [4, 5, 6, 18] (fun lv fv wv i W => ∃ k wr, k ≤ K.length ∧ i = .int .i64 ((k : Nat) : Int) ∧ wv = .int .i64 wr ∧ DInv w D P K l k lv fv wr W) (fun _ _ _ i _ => K.length - (intOf i).toNat)
  case atStart => exact ⟨0, -1, Nat.zero_le _, rfl, rfl, hI0⟩
  case round =>
    obtain ⟨k, wr', hkl, rfl, rfl, hI⟩ := hrel
    by_cases hlt : k < K.length
    · have hkk := hk K[k] (List.getElem_mem _)
      obtain ⟨q1, q2, q3, q4, sa, sn, sc, q5⟩ := hkk
      obtain ⟨b, off, rfl, hbb, _, hcells⟩ := Dats.at_ (w := wr) (Sl.below hK hI.bel (Nat.le_refl _)) (by omega)
      obtain ⟨f0, f1, f2⟩ := hcells k hlt
      obtain ⟨kk, hkk⟩ : ∃ kk : Nat, K[k].1 = (kk : Int) := ⟨K[k].1.toNat, by omega⟩
      obtain ⟨N, hNN⟩ : ∃ N : Nat, K[k].2.1 = (N : Int) := ⟨K[k].2.1.toNat, by omega⟩
      rw [hkk] at f0 q2
      rw [hNN] at f1 q4
      rw [q5] at f2
      have hkkn : kk ≤ 12 := by omega
      have hNle : N ≤ 4294967296 := by omega
      have hHuge := hN k (by simp; exact hlt)
      rw [List.getElem_map] at hHuge
      obtain ⟨hbel, hpb, hdec, Ls, Fs, hLs, hFs, hxs⟩ := hI
      obtain ⟨za, zc, rfl⟩ := own_form hLs
      obtain ⟨fa, fc, rfl⟩ := own_form hFs
      have hWz := hbel.size
      have hPl := hpb.lt
      -- the Decbuf
      obtain ⟨m, E, hst, hE, hml, hds⟩ : ∃ m E, ((E = .nilIface ∧ (runD ((K.take k).map kn) l).2 = some m ∧ wr' = -1 ∧ (runD ((K.take k).map kn) l).1.length = k) ∨ (E ≠ .nilIface ∧ (runD ((K.take k).map kn) l).2 = none ∧ wr' = (runD ((K.take k).map kn) l).1.length ∧ (runD ((K.take k).map kn) l).1.length < k)) ∧ (E = .nilIface ∨ ∃ t u, E = .iface t u) ∧ m.length ≤ 2147483647 ∧ DSt D wr m E := by
        rcases hdec with ⟨m, s1, s2, s3, s4, s5⟩ | ⟨s1, ⟨m, t, u, s2, s3⟩, s4, s5⟩
        · exact ⟨m, .nilIface, .inl ⟨rfl, s1, s4, s5⟩, .inl rfl, s2, s3⟩
        · exact ⟨m, .iface t u, .inr ⟨by simp, s1, s4, s5⟩, .inr ⟨t, u, rfl⟩, s2, s3⟩
      have hDl := hds.lt
      have hX : E = .nilIface → kk = 10 ∨ kk = 11 → ∀ X r, decU m = some (X, r) → X < 2147483648 := by
        intro hE0 hk10
        rcases hst with ⟨_, s1, _⟩ | ⟨s1, _⟩
        · exact hHuge m (by rw [← List.map_take]; exact s1) (by simpa [kn, hkk] using hk10)
        · exact absurd hE0 s1
      -- x, y and the flag of safe
      have B1 := (Blk.new wr [.int .i64 kk, .int .u64 N, .slice sa sn sc] DaT).alloc (.cells #[.int .i64 0, .int .u64 0, .slice none 0 0] DaT)
      have B2 := Blk.new (wr.alloc (.cells #[.int .i64 kk, .int .u64 N, .slice sa sn sc] DaT)) [.int .i64 0, .int .u64 0, .slice none 0 0] DaT
      have hzA : (wr.alloc (.cells #[.int .i64 kk, .int .u64 N, .slice sa sn sc] DaT)).heap.size = wr.heap.size + 1 := by simp
      rw [hzA] at B2
      have hbn := (below_new wr (.cells #[.int .i64 kk, .int .u64 N, .slice sa sn sc] DaT)).alloc (by simp) (.cells #[.int .i64 0, .int .u64 0, .slice none 0 0] DaT)
      have hz2 : ((wr.alloc (.cells #[.int .i64 kk, .int .u64 N, .slice sa sn sc] DaT)).alloc (.cells #[.int .i64 0, .int .u64 0, .slice none 0 0] DaT)).heap.size = wr.heap.size + 2 := by simp
      go_wp2_with fail
      generalize (wr.alloc (.cells #[.int .i64 kk, .int .u64 N, .slice sa sn sc] DaT)).alloc (.cells #[.int .i64 0, .int .u64 0, .slice none 0 0] DaT) = V at *
      have nb := below_new V (.cells #[.bool false] 4)
      have hEGD : EG ≠ D := by obtain ⟨t, u, hgc⟩ := hg; have := cell_lt hgc; omega
      have hF1 := dec1_any P wr.heap.size (wr.heap.size + 1) kk hkkn D m E N (.slice sa sn sc) .nilIface ⟨_, _, _, rfl⟩ _ _ _ (V.alloc (.cells #[.bool false] 4)) ((hpb.chg (Chg.ofBelow hbn) (by omega)).alloc _) (B1.alloc _) (B2.alloc _) ((hds.low hbn).low nb) hE hml (((hg.low hbel).low hbn).low nb) hNle hEGD (by omega) hX
      refine (safe_ok 24 _ V (fun w' => ∃ n a j c, Blk w' (wr.heap.size + 1) [.int .i64 kk, .int .u64 n, .slice a j c] DaT ∧ GAll D w' E (decD kk N m) n (.slice a j c)) (fun q => q = D ∨ q = wr.heap.size + 1) (fun _ => by kernel_rfl) (by omega) hF1).mono ?_
      rintro e w5 ⟨rfl, w4, ⟨n, ya, yn, yc, hy, hga⟩, hc4, hc5⟩
      have hz4 := hc4.size
      simp at hz4
      have hz5 := hc5.size
      have hfl := (Blk.new V [.bool false] 4).chg hc4 (by omega)
      have hy5 := hy.chg hc5 (by omega)
      obtain ⟨m', E', hdn4⟩ := hga.next hml
      have hdn := hdn4.chg hc5 (fun q hq => by omega) (fun q cs fr hq h => by subst h; exact hfl.tyne (by decide) cs fr hq)
      have hcW : Chg (fun q => q = D) wr w5 := ⟨hc5.os.trans (hc4.os.trans (nb.os.trans hbn.os)), hc5.tape.trans (hc4.tape.trans (nb.tape.trans hbn.tape)), hc5.output.trans (hc4.output.trans (nb.output.trans hbn.output)), by omega, fun q hq hn => by rw [hc5.block q (by omega) (by omega), hc4.block q (by simp; omega) (by omega), nb.block q (by omega), hbn.block q hq]⟩
      have hDty : ∃ v, Blk wr D [v, E] DT := let ⟨v, h, _⟩ := hds; ⟨v, h⟩
      obtain ⟨dv, hDB⟩ := hDty
      have pb5 := hpb.chg hcW (fun h => by subst h; exact hpb.tyne (by decide) _ _ hDB)
      have hL5 := own_chg hLs hcW (fun g h1 h2 h => by subst h; obtain ⟨cs, h3⟩ := own_type hLs h2; exact hDB.tyne (by decide) cs _ h3)
      have hF5 := own_chg hFs hcW (fun g h1 h2 h => by subst h; obtain ⟨cs, h3⟩ := own_type hFs h2; exact hDB.tyne (by decide) cs _ h3)
      have hx5 := hxs.chg hcW (fun q cs fr hq h => by subst h; exact hDB.tyne (by decide) cs fr hq)
      have hbel5 : Below w.heap.size w w5 := hbel.trans (hcW.below _ hWz (fun q hq => by omega))
      have hLlt : ∀ g, (Value.slice za k zc).ownBlock = some g → g < wr.heap.size := fun g h => (hLs.lt g h).2
      have hLsl : Ls.length = k * 3 := hLs.1
      have hFsl : Fs.length = k := by have := hFs.1; omega
      clear hLs hFs hxs hdec hpb hbel hga hdn4 hy hfl hc4 hc5 nb hF1 B1 B2 hbn hz2 hzA f0 f1 f2 hcells
      go_wp2_with fail
      -- the datum and what is left are appended
      have hR1 : ∀ q, (Value.slice za k zc).ownBlock = some q → D < q ∧ q < wr.heap.size ∧ ∃ cs, w5.heap[q]? = some (.cells cs DaT (0, 0)) := fun q hq => ⟨(hL5.lt q hq).1, hLlt q hq, own_type hL5 hq⟩
      have hR2 : ∀ q, (Value.slice fa k fc).ownBlock = some q → D < q ∧ ∃ cs, w5.heap[q]? = some (.cells cs 3 (0, 0)) := fun q hq => ⟨(hF5.lt q hq).1, own_type hF5 hq⟩
      have hO1 := own_drew (own_alloc hL5 (.cells #[.int .i64 kk, .int .u64 n, .slice ya yn yc] DaT))
      have hnew1 : (w5.alloc (.cells #[.int .i64 kk, .int .u64 n, .slice ya yn yc] DaT)).drew.heap[w5.heap.size]? = some (.cells #[.int .i64 kk, .int .u64 n, .slice ya yn yc] DaT (0, 0)) := heap_alloc_new w5 _
      have hone3 : ∀ u ∈ [Value.int .i64 kk, .int .u64 n, .slice ya yn yc], u.oneCell' = true := by intro u hu; simp at hu; rcases hu with rfl | rfl | rfl <;> rfl
      have hzn1 : (w5.alloc (.cells #[.int .i64 kk, .int .u64 n, .slice ya yn yc] DaT)).drew.heap.size = w5.heap.size + 1 := by simp
      have hkb : k < 2147483648 := by omega
      have hbs1 : D + 1 ≤ (w5.alloc (.cells #[.int .i64 kk, .int .u64 n, .slice ya yn yc] DaT)).drew.heap.size := by rw [hzn1]; have := hdn.1.lt; omega
      have hq2 := hy5.lt
      have hbz5 := hbel5.size
      have hdl5 := hdn.1.lt
      have HY : ∀ (S : Nat → Prop) (W' : World), Chg S w5 W' → ¬ S (wr.heap.size + 1) → ¬ S P → W'.cell? ⟨wr.heap.size + 1, 0, none⟩ = some (.int .i64 kk) ∧ W'.cell? ⟨wr.heap.size + 1, 1, none⟩ = some (.int .u64 n) ∧ W'.cell? ⟨wr.heap.size + 1, 2, none⟩ = some (.slice ya yn yc) ∧ W'.cell? ⟨P, 0, none⟩ = some (.pointer (some ⟨D, 0, none⟩)) := fun S W' hc s1 s2 => by
        have g1 := hy5.chg hc s1
        have g2 := pb5.chg hc s2
        exact ⟨g1.cell 0, g1.cell 1, g1.cell 2, g2.cell 0⟩
      have hS5 := HY (fun _ => False) w5.drew ((Chg.refl _ w5).drew) (fun h => h) (fun h => h)
      have hS5a := HY (fun _ => False) (w5.alloc (.cells #[.int .i64 kk, .int .u64 n, .slice ya yn yc] DaT)).drew (((Chg.refl _ w5).alloc _).drew) (fun h => h) (fun h => h)
      have hn1 : ¬ (Value.slice za k zc).ownBlock = some (wr.heap.size + 1) := fun h => by have := (hR1 _ h).2.1; omega
      have hn2 : ¬ (Value.slice za k zc).ownBlock = some P := fun h => by obtain ⟨_, _, cs, h⟩ := hR1 _ h; exact pb5.tyne (by decide) _ _ h
      have H6 : ∀ w6, (w5.alloc (.cells #[.int .i64 kk, .int .u64 n, .slice ya yn yc] DaT)).drew.grownBy w6 (Value.slice za k zc).ownBlock → Chg (fun q => (Value.slice za k zc).ownBlock = some q) w5 w6 := fun w6 hg => (((Chg.refl _ w5).alloc _).drew).grown hg (fun q hq => hq)
      have hDL : ∀ w6, Chg (fun q => (Value.slice za k zc).ownBlock = some q) w5 w6 → DSt D w6 m' E' := fun w6 hc => hdn.1.chg hc (fun q hq h => by have := (hR1 q h).1; omega)
      have hFF : ∀ w6, Chg (fun q => (Value.slice za k zc).ownBlock = some q) w5 w6 → w6.ownsRow (D + 1) 3 1 (.slice fa k fc) k Fs := fun w6 hc => own_chg hF5 hc (fun g _ h2 h1 => by
        obtain ⟨_, _, cs, g1⟩ := hR1 g h1
        obtain ⟨_, cs', g2⟩ := hR2 g h2
        rw [g1] at g2
        injection g2 with g2
        injection g2 with _ g2 _
        exact absurd g2 (by decide))
      have hBS : ∀ w6, Chg (fun q => (Value.slice za k zc).ownBlock = some q) w5 w6 → D + 1 ≤ (w6.alloc (.cells #[.int .i64 (m'.length : Int)] 3)).heap.size := fun w6 hc => by
        have := hc.size
        simp
        omega
      have H7 : ∀ w6 w7, Chg (fun q => (Value.slice za k zc).ownBlock = some q) w5 w6 → (w6.alloc (.cells #[.int .i64 (m'.length : Int)] 3)).grownBy w7 (Value.slice fa k fc).ownBlock → Chg (fun q => (Value.slice za k zc).ownBlock = some q ∨ (Value.slice fa k fc).ownBlock = some q) w5 w7 := fun w6 w7 hc hg => ((hc.mono (fun q hq => .inl hq)).alloc _).grown hg (fun q hq => .inr hq)
      have hn3 : ¬ ((Value.slice za k zc).ownBlock = some (wr.heap.size + 1) ∨ (Value.slice fa k fc).ownBlock = some (wr.heap.size + 1)) := fun h => h.elim hn1 (fun h => by obtain ⟨_, cs, h⟩ := hR2 _ h; exact hy5.tyne (by decide) _ _ h)
      have hn4 : ¬ ((Value.slice za k zc).ownBlock = some P ∨ (Value.slice fa k fc).ownBlock = some P) := fun h => h.elim hn2 (fun h => by obtain ⟨_, cs, h⟩ := hR2 _ h; exact pb5.tyne (by decide) _ _ h)
      go_region_held3 (fun w' => w'.cell? ⟨wr.heap.size + 1, 0, none⟩ = some (.int .i64 kk) ∧ w'.cell? ⟨wr.heap.size + 1, 1, none⟩ = some (.int .u64 n) ∧ w'.cell? ⟨wr.heap.size + 1, 2, none⟩ = some (.slice ya yn yc) ∧ w'.cell? ⟨P, 0, none⟩ = some (.pointer (some ⟨D, 0, none⟩))) (first | (with_reducible exact hS5) | (with_reducible exact hS5a) | (with_reducible exact hS6) | (with_reducible exact hS6a) | (with_reducible exact hS7) | fail) (first
        | (refine step_app 23 DaT i0 _ 3 40 rfl (.tmp 29) (.tmp 31) rfl rfl Tryz.underlying23 hi hz0 hz1 hz2 rfl (by decide) (by decide) (D + 1) (.slice za k zc) k Ls rfl hO1 w5.heap.size rfl [.int .i64 kk, .int .u64 n, .slice ya yn yc] rfl hnew1 hone3 hkb hbs1 ?_; intro v1 w6 ho1 hg1; obtain ⟨a1, c1, rfl⟩ := own_form ho1; have hc6 := H6 w6 hg1; have hS6 := HY _ w6 hc6 hn1 hn2)
        | (go_at_call 26; refine (dLen_any D m' E' _ (hDL w6 hc6)).mono ?_; rintro e w' ⟨rfl, rfl⟩; have hF6 := hFF w6 hc6; have hO2 := own_alloc hF6 (.cells #[.int .i64 (m'.length : Int)] 3); have hbs2 := hBS w6 hc6; have hS6a := HY _ (w6.alloc (.cells #[.int .i64 (m'.length : Int)] 3)) (hc6.alloc _) hn1 hn2)
        | (refine step_app 29 3 j0 _ 1 8 rfl (.tmp 33) (.tmp 36) rfl rfl Tryz.underlying29 hj hy0 hy1 hy2 rfl (by decide) (by decide) (D + 1) (.slice fa k fc) k Fs rfl hO2 w6.heap.size rfl [.int .i64 (m'.length : Int)] rfl (heap_alloc_new w6 _) (one1 _ _) hkb hbs2 ?_; intro v2 w7 ho2 hg2; obtain ⟨a3, c3, rfl⟩ := own_form ho2; have hc7 := H7 w6 w7 hc6 hg2; have hS7 := HY _ w7 hc7 hn3 hn4)
        | fail)
      have d7 := hdn.chg hc7 (fun q hq h => by
        rcases h with h | h
        · have := (hR1 q h).1; omega
        · have := (hR2 q h).1; omega) (fun q cs fr hq h => by
        rcases h with h | h
        · obtain ⟨_, _, cs', h⟩ := hR1 q h
          rw [h] at hq
          injection hq with hq
          injection hq with _ hq _
          exact absurd hq (by decide)
        · obtain ⟨_, cs', h⟩ := hR2 q h
          rw [h] at hq
          injection hq with hq
          injection hq with _ hq _
          exact absurd hq (by decide))
      have x7 := hx5.chg hc7 (fun q cs fr hq h => by
        rcases h with h | h
        · obtain ⟨_, _, cs', h⟩ := hR1 q h
          rw [h] at hq
          injection hq with hq
          injection hq with _ hq _
          exact absurd hq (by decide)
        · obtain ⟨_, cs', h⟩ := hR2 q h
          rw [h] at hq
          injection hq with hq
          injection hq with _ hq _
          exact absurd hq (by decide))
      have p7 := pb5.chg hc7 hn4
      have L7 := own_keep hO2 hg2 (own_alloc ho1 (.cells #[.int .i64 (m'.length : Int)] 3)) (by decide)
      have b7 : Below w.heap.size w w7 := hbel5.trans (hc7.below _ hbz5 (fun q hq h => by
        rcases h with h | h
        · have := (hR1 q h).1; omega
        · have := (hR2 q h).1; omega))
      have pc7 := p7.cell 0
      have hEr := dErr_any D m' E' w7 d7.1
      have HN := fun wr2 h => DInv.next (wr' := wr2) hlt hkk hNN b7 p7 hst d7 x7 hLsl hFsl L7 ho2 h
      have hd3 := d7.2.2
      clear hS5 hS5a hS6 hS6a hS7 hR1 hR2 HY H6 H7 hDL hFF hBS hc7 hc6 hdn hx5 hL5 hF5 hO1 hO2 ho1 ho2 L7 p7 pb5 hy5 x7 d7 hX hHuge
      rcases hst with ⟨rfl, _, rfl, _⟩ | ⟨s0, _, s2, _⟩
      · rcases hd3 with ⟨rfl, _, _⟩ | ⟨⟨t, u, rfl⟩, _⟩
        · have H := Lib.hid (HN (-1) ⟨fun h => absurd rfl h.2, fun _ => rfl⟩)
          clear HN
          go_wp2_with (first | (go_at_call 27; refine hEr.mono ?_; rintro e w' ⟨rfl, rfl⟩) | fail)
          go_roundw
          case rel => exact ⟨k + 1, _, by omega, by go_num, rfl, H.out⟩
          case measure => simp [intOf]; omega
        · have H := Lib.hid (HN k ⟨fun _ => rfl, fun h => absurd ⟨by omega, by simp⟩ h⟩)
          clear HN
          go_wp2_with (first | (go_at_call 27; refine hEr.mono ?_; rintro e w' ⟨rfl, rfl⟩) | fail)
          go_roundw
          case rel => exact ⟨k + 1, _, by omega, by go_num, rfl, H.out⟩
          case measure => simp [intOf]; omega
      · have H := Lib.hid (HN wr' ⟨fun h => by omega, fun _ => rfl⟩)
        have hw0 : ¬ wr' < 0 := by omega
        clear HN s2
        go_wp2_with (first | (go_at_call 27; refine hEr.mono ?_; rintro e w' ⟨rfl, rfl⟩) | fail)
        go_roundw
        case rel => exact ⟨k + 1, _, by omega, by go_num, rfl, H.out⟩
        case measure => simp [intOf]; omega
    · obtain rfl : k = K.length := by omega
      go_wp2_with fail
      go_ret3
      exact ⟨_, _, _, _, _, rfl, hI⟩
end Go.Proofs.YtkbkggamfkadnaaGreatDoor
