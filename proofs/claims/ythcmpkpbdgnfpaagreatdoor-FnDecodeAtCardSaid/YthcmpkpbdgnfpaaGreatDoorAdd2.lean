/-
  Intervals.Add: to nothing; behind the end.
-/
import Derived.Test.YthcmpkpbdgnfpaaGreatDoorAdd1
namespace Go.Proofs.YthcmpkpbdgnfpaaGreatDoor
set_option linter.unusedSimpArgs false
set_option linter.unusedVariables false
open Go.RowKit

theorem infoIv : (Tryz.prog.info? 78).map (fun i => (i.zero, i.size, i.bytes)) = some (some (.agg #[.int .i64 0, .int .i64 0]), 2, 16) := by kernel_rfl
abbrev IT : TypeId := 78

/-- inside Add: its boxes, and the row -/
structure AS (W : World) (A B M g cap base : Nat) (a b m : Int) (l : List (Int × Int)) : Prop where
  cA : Blk W A [.slice (some ⟨g, 0, none⟩) l.length cap] 76
  cB : Blk W B [.int .i64 a, .int .i64 b] IT
  cM : Blk W M [.int .i64 m] 3
  row : ∃ cur, Blk W g cur IT ∧ cur.length = cap * 2 ∧ cur.take (l.length * 2) = flatI l
  lc : l.length ≤ cap
  cm : cap ≤ maxLen
  o1 : base ≤ g
  o2 : g < A
  o3 : A < B
  o4 : B < M
theorem AS.keep {W W' : World} {A B M g cap base : Nat} {a b m : Int} {l : List (Int × Int)} (h : AS W A B M g cap base a b m l) {S : Nat → Prop} (hc : Chg S W W') (hA : ¬ S A) (hB : ¬ S B) (hM : ¬ S M) (hg : ¬ S g) : AS W' A B M g cap base a b m l := by
  obtain ⟨h1, h2, h3, ⟨cur, h4, h5, h6⟩, h7, h8, h9, h10, h11, h12⟩ := h
  exact ⟨h1.chg hc hA, h2.chg hc hB, h3.chg hc hM, ⟨cur, h4.chg hc hg, h5, h6⟩, h7, h8, h9, h10, h11, h12⟩
theorem AS.keepF {W W' : World} {A B M g cap base : Nat} {a b m : Int} {l : List (Int × Int)} (h : AS W A B M g cap base a b m l) (hc : Chg (fun _ => False) W W') : AS W' A B M g cap base a b m l := h.keep hc (fun h => h) (fun h => h) (fun h => h) (fun h => h)
theorem AS.ivs {W : World} {A B M g cap base : Nat} {a b m : Int} {l : List (Int × Int)} (h : AS W A B M g cap base a b m l) : IvAt W g l := by
  obtain ⟨cur, h4, h5, h6⟩ := h.row
  exact IvAt.of (n := 0) h4 h6
theorem AS.own {W : World} {A B M g cap base : Nat} {a b m : Int} {l : List (Int × Int)} (h : AS W A B M g cap base a b m l) : W.ownsRow base IT 2 (.slice (some ⟨g, 0, none⟩) l.length cap) l.length (flatI l) := by
  obtain ⟨cur, h4, h5, h6⟩ := h.row
  exact blk_own h4 h.o1 h.lc h.cm h5 h6
/-- at the start -/
theorem AS.start {w : World} {base cap : Nat} {ad : Addr} {a b : Int} {l : List (Int × Int)} (h : w.ownsRow base IT 2 (.slice (some ad) l.length cap) l.length (flatI l)) :
    ∃ g, ad = ⟨g, 0, none⟩ ∧ AS (((w.alloc (.cells #[.slice (some ⟨g, 0, none⟩) l.length cap] 76)).alloc (.cells #[.int .i64 a, .int .i64 b] IT)).alloc (.cells #[.int .i64 0] 3)) w.heap.size (w.heap.size + 1) (w.heap.size + 1 + 1) g cap base a b 0 l := by
  obtain ⟨g, cur, rfl, h1, h2, h3, h4, h5, h6⟩ := own_blk h
  have hg := h2.lt
  refine ⟨g, rfl, ((Blk.new w [.slice (some ⟨g, 0, none⟩) l.length cap] _).alloc _).alloc _, ?_, ?_, ⟨cur, ((h2.alloc _).alloc _).alloc _, h5, h6⟩, h3, h4, h1, hg, by omega, by omega⟩
  · have := (Blk.new (w.alloc (.cells #[.slice (some ⟨g, 0, none⟩) l.length cap] 76)) [.int .i64 a, .int .i64 b] IT).alloc (.cells #[.int .i64 0] 3)
    simpa using this
  · have := Blk.new ((w.alloc (.cells #[.slice (some ⟨g, 0, none⟩) l.length cap] 76)).alloc (.cells #[.int .i64 a, .int .i64 b] IT)) [.int .i64 0] 3
    simpa using this

theorem run_iv_append (w : World) (base : Nat) (v : Value) (n : Nat) (l : List (Int × Int)) (hown : w.ownsRow base IT 2 v n (flatI l)) (p o m c : Nat) (news : List (Int × Int)) (hl : news.length = m) (hc : ∀ j u, (flatI news)[j]? = some u → w.cell? ⟨p, o + j, none⟩ = some u) (hn : n + m ≤ 2147483648) (hbase : base ≤ w.heap.size) :
    ∃ v' w', (Builtin.append_ #[76, 76] 76 #[v, .slice (some ⟨p, o, none⟩) m c]).run Tryz.prog w = .ok v' w' ∧ w'.ownsRow base IT 2 v' (n + m) (flatI (l ++ news)) ∧ w.grownBy w' v.ownBlock := by
  obtain ⟨i0, hi, hz0, hz1, hz2⟩ := info_parts infoIv
  obtain ⟨v', w', h1, h2, h3, _⟩ := run_append_own (P := Tryz.prog) w base 76 76 IT i0 _ 2 16 Tryz.underlying76 hi hz0 hz1 hz2 rfl (by decide) v n _ hown ⟨p, o, none⟩ m c (flatI news) (by rw [length_flat, hl]) (fun j u hj => by rw [add_cell]; exact hc j u hj) (one_flatI news) (by unfold maxLen; omega) (by omega) hbase
  rw [← flat_append] at h2
  exact ⟨v', w', h1, h2, h3⟩
theorem one_iv (w : World) (a b : Int) (t : TypeId) : ∀ j u, (flatI [(a, b)])[j]? = some u → (w.alloc (.cells #[.int .i64 a, .int .i64 b] t)).cell? ⟨w.heap.size, 0 + j, none⟩ = some u := fun j u hj => by
  rw [Nat.zero_add, World.cell?_alloc_new]
  simpa [flat] using hj

set_option maxRecDepth 100000 in
set_option maxHeartbeats 2000000 in
theorem add_nil (base : Nat) (v : Value) (a b : Int) (w : World) (h : w.ownsRow base IT 2 v 0 (flatI [])) (hbase : base ≤ w.heap.size) :
    Calls Tryz.prog 35 #[v, .agg #[.int .i64 a, .int .i64 b]] w fun e w' => ∃ v', e = .returned v' ∧ w'.ownsRow base IT 2 v' 1 (flatI [(a, b)]) ∧ Chg (fun k => some k = v.ownBlock) w w' := by
  obtain ⟨va, vc, rfl⟩ := own_form h
  have hc0 := (((Chg.refl (fun _ => False) w).alloc (.cells #[.slice va 0 vc] 76)).alloc (.cells #[.int .i64 a, .int .i64 b] IT))
  have ho := own_chg h hc0 (fun _ _ _ h => h)
  have hz := hc0.size
  have ezz : ((w.alloc (.cells #[.slice va 0 vc] 76)).alloc (.cells #[.int .i64 a, .int .i64 b] IT)).heap.size = w.heap.size + 1 + 1 := by simp
  go_enter Tryz.func35, Tryz.ntmps35
  have hr0 := run_iv_append (((w.alloc (.cells #[.slice va 0 vc] 76)).alloc (.cells #[.int .i64 a, .int .i64 b] IT)).alloc (.cells #[.int .i64 a, .int .i64 b] IT)) base _ 0 [] (own_alloc ho _) ((w.alloc (.cells #[.slice va 0 vc] 76)).alloc (.cells #[.int .i64 a, .int .i64 b] IT)).heap.size 0 1 1 [(a, b)] rfl (one_iv _ a b IT) (by omega) (by simp; omega)
  rw [ezz] at hr0
  obtain ⟨v', w', hr, ho', hg⟩ := hr0
  have HR := Lib.hid hr
  clear hr ezz
  have hcc := ((hc0.alloc (.cells #[.int .i64 a, .int .i64 b] IT)).mono (T := fun k => some k = (Value.slice va 0 vc).ownBlock) (fun k h => h.elim)).trans (Chg.ofGrown hg)
  clear hg ho hc0 hz
  go_wp2_with (first | (at_builtin; refine list_run 76 76 rfl (.tmp 10) (.tmp 12) rfl rfl rfl rfl HR.out ?_) | fail)
  go_ret
  exact ⟨_, rfl, ho', hcc⟩
end Go.Proofs.YthcmpkpbdgnfpaaGreatDoor
