/-
  The iterator without data: the walk of NopPlay, and of the law.
-/
import Derived.Test.YtmnfojolielnlaaRows
import Derived.Test.YtmnfojolielnlaaOpen
import Derived.WalkKit
import Derived.Laws.Externs
import Derived.Deep.RegionHeld3
import Derived.Deep.AppendSrc
namespace Go.Proofs.Ytmnfojolielnlaa
set_option linter.unusedSimpArgs false
set_option linter.unusedVariables false
open Go.RowKit

/-- a slice of steps -/
def Steps (w : World) (B : Nat) (v : Value) (l : List (Bool × Int)) : Prop :=
  Sl w B 2 v l.length fun i => if i % 2 = 0 then .bool (l.getD (i / 2) (false, 0)).1 else .int .i64 (l.getD (i / 2) (false, 0)).2
theorem Steps.below {w w' : World} {B B' : Nat} {v : Value} {l : List (Bool × Int)} (h : Steps w B v l) (hb : Below B' w w') (hB : B ≤ B') : Steps w' B v l := Sl.below h hb hB
theorem Steps.form {w : World} {B : Nat} {v : Value} {l : List (Bool × Int)} (h : Steps w B v l) : ∃ ao cap, v = .slice ao l.length cap ∧ l.length ≤ cap ∧ cap ≤ maxLen := Sl.form h
theorem Steps.at_ {w : World} {B : Nat} {ao : Option Addr} {n cap : Nat} {l : List (Bool × Int)} (h : Steps w B (.slice ao n cap) l) (hn : 0 < l.length) :
    ∃ b off, ao = some ⟨b, off, none⟩ ∧ b < B ∧ B ≤ w.heap.size ∧ ∀ i (hi : i < l.length), w.cell? ⟨b, off + i * 2, none⟩ = some (.bool l[i].1) ∧ w.cell? ⟨b, off + i * 2 + 1, none⟩ = some (.int .i64 l[i].2) := by
  obtain ⟨b, off, h1, h2, h2', h3⟩ := Sl.at_ h hn
  refine ⟨b, off, h1, h2, h2', fun i hi => ⟨?_, ?_⟩⟩
  · rw [h3 (i * 2) (by omega)]; simp [hi]
  · rw [Nat.add_assoc, h3 (i * 2 + 1) (by omega)]
    have e1 : (i * 2 + 1) % 2 = 1 := by omega
    have e2 : (i * 2 + 1) / 2 = i := by omega
    simp [e1, e2, hi]

theorem newNop_any (w : World) : Calls Try.prog 9 #[] w fun e w' => e = .returned (.iface 54 (.agg #[])) ∧ w = w' := by
  go_enter Try.func9, Try.ntmps9
  go_wp2
  go_ret
  exact ⟨rfl, rfl⟩
theorem nopNext_any (w : World) : Calls Try.prog 37 #[.agg #[]] w fun e w' => e = .returned (.int .u8 0) ∧ Below w.heap.size w w' := by
  have hb : ∀ o, Below w.heap.size w (w.alloc o) := fun o => (Below.refl _ _).alloc (Nat.le_refl _) o
  go_enter Try.func37, Try.ntmps37
  go_wp2
  go_ret
  exact ⟨rfl, hb _⟩
theorem nopSeek_any (t : Int) (w : World) : Calls Try.prog 38 #[.agg #[], .int .i64 t] w fun e w' => e = .returned (.int .u8 0) ∧ Below w.heap.size w w' := by
  have hb : ∀ o, Below w.heap.size w (w.alloc o) := fun o => (Below.refl _ _).alloc (Nat.le_refl _) o
  go_enter Try.func38, Try.ntmps38
  go_wp2
  go_ret
  exact ⟨rfl, hb _⟩
theorem nopErr_any (w : World) : Calls Try.prog 36 #[.agg #[]] w fun e w' => e = .returned .nilIface ∧ Below w.heap.size w w' := by
  have hb : ∀ o, Below w.heap.size w (w.alloc o) := fun o => (Below.refl _ _).alloc (Nat.le_refl _) o
  go_enter Try.func36, Try.ntmps36
  go_wp2
  go_ret
  exact ⟨rfl, hb _⟩

def flatS (l : List (Bool × Int)) : List Value := l.flatMap fun x => [.bool x.1, .int .i64 x.2]
theorem length_flatS (l : List (Bool × Int)) : (flatS l).length = l.length * 2 := by
  induction l with
  | nil => rfl
  | cons x l ih => simp only [flatS, List.flatMap_cons, List.length_append, List.length_cons, List.length_nil] at *; omega
theorem flatS_append (l m : List (Bool × Int)) : flatS (l ++ m) = flatS l ++ flatS m := by simp [flatS]
theorem getD_flatS (l : List (Bool × Int)) (i : Nat) (h : i < l.length * 2) : (flatS l).getD i undef = if i % 2 = 0 then .bool (l.getD (i / 2) (false, 0)).1 else .int .i64 (l.getD (i / 2) (false, 0)).2 := by
  induction l generalizing i with
  | nil => simp at h
  | cons x l ih =>
    match i, h with
    | 0, _ => rfl
    | 1, _ => rfl
    | i + 2, h =>
      have := ih i (by simp at h; omega)
      have e1 : (i + 2) % 2 = i % 2 := by omega
      have e2 : (i + 2) / 2 = i / 2 + 1 := by omega
      rw [e1, e2]
      exact this
theorem Steps.own {w : World} {base e : Nat} {v : Value} {n : Nat} {l : List (Bool × Int)} (h : w.ownsRow base e 2 v n (flatS l)) : Steps w w.heap.size v l := by
  have hn : l.length = n := by have := h.1; rw [length_flatS] at this; omega
  unfold Steps
  rw [hn]
  exact (Sl.own h).congr fun i hi => getD_flatS l i (by omega)

theorem infoStep : (Try.prog.info? 26).map (fun i => (i.zero, i.size, i.bytes)) = some (some (.agg #[.bool false, .int .i64 0]), 2, 16) := by kernel_rfl

theorem run_append_steps (w : World) (base : Nat) (v : Value) (n : Nat) (l : List (Bool × Int)) (hn0 : 0 < n) (hown : w.ownsRow base 26 2 v n (flatS l)) (v2 : Value) (l2 : List (Bool × Int)) (B : Nat) (hp : Steps w B v2 l2)
    (hn : n + l2.length ≤ 4294967296) (hbase : base ≤ w.heap.size) :
    ∃ v' w', (Builtin.append_ #[22, 22] 22 #[v, v2]).run Try.prog w = .ok v' w' ∧ w'.ownsRow base 26 2 v' (n + l2.length) (flatS (l ++ l2)) ∧ w.grownBy w' v.ownBlock := by
  obtain ⟨i0, hi, hz0, hz1, hz2⟩ := info_parts infoStep
  have hs := hp
  unfold Steps at hs
  obtain ⟨ao, cap, rfl, h1, h2⟩ := hp.form
  rw [flatS_append]
  cases ao with
  | none =>
    have hl : l2 = [] := by
      rcases Nat.eq_zero_or_pos l2.length with h0 | h0
      · exact List.length_eq_zero_iff.1 h0
      · obtain ⟨b, off, e, _⟩ := hp.at_ h0
        cases e
    subst hl
    refine ⟨v, w, ?_, by simpa [flatS] using hown, ⟨rfl, rfl, rfl, Nat.le_refl _, fun _ _ _ => rfl⟩⟩
    rcases hown.2 with ⟨rfl, e0⟩ | ⟨g, cap', cur, rfl, k1, k2, k3, k4, k5, k6⟩
    · omega
    · have := run_append_room_src (P := Try.prog) w 22 22 22 26 i0 Try.underlying22 hi g 0 n cap' (.slice none 0 cap) 0 [] (Src.ofNil w Try.underlying22 cap) (by omega) (fun j hj => absurd hj (by simp)) (fun j hj => absurd hj (by simp))
      rw [show ([] : List (Bool × Int)).length = 0 from rfl, this]
      simp [World.setCells]
  | some a =>
    obtain ⟨v', w', hr, ho, hg, _⟩ := run_append_own (P := Try.prog) w base 22 22 26 i0 (.agg #[.bool false, .int .i64 0]) 2 16 Try.underlying22 hi hz0 hz1 hz2 rfl (by decide) v n _ hown a l2.length cap (flatS l2) (length_flatS _) (fun j u hj => by
        have hjl := (List.getElem?_eq_some_iff.1 hj).1
        rw [length_flatS] at hjl
        obtain ⟨b, off, e, _, _, hc⟩ := hs.at_ (by omega)
        cases e
        have hg := getD_flatS l2 j hjl
        have e2 : (⟨b, off, none⟩ : Addr).add j = ⟨b, off + j, none⟩ := by
          unfold Addr.add
          split
          · rename_i h; subst h; rfl
          · rfl
        rw [e2, hc j hjl, ← hg, List.getD_eq_getElem?_getD, hj]
        rfl) (fun u hu => by
        unfold flatS at hu
        obtain ⟨y, _, hy⟩ := List.mem_flatMap.1 hu
        rcases List.mem_cons.1 hy with rfl | hy
        · rfl
        · rcases List.mem_cons.1 hy with rfl | hy
          · rfl
          · cases hy) (by unfold maxLen; omega) (by omega) hbase
    exact ⟨v', w', hr, ho, hg⟩

theorem ownsRow_one (w : World) (t : TypeId) (a b : Value) : (w.alloc (.cells #[a, b] t)).ownsRow w.heap.size t 2 (.slice (some ⟨w.heap.size, 0, none⟩) 1 1) 1 [a, b] :=
  ⟨rfl, .inr ⟨w.heap.size, 1, #[a, b], rfl, Nat.le_refl _, heap_alloc_new w _, Nat.le_refl _, by decide, rfl, rfl⟩⟩

theorem seek_method (t : World) : (method 191 54 (.agg #[]) "Seek").run Try.prog t = .ok (38, .agg #[]) t := by kernel_rfl
theorem next_method (t : World) : (method 191 54 (.agg #[]) "Next").run Try.prog t = .ok (37, .agg #[]) t := by kernel_rfl
theorem err_method (t : World) : (method 191 54 (.agg #[]) "Err").run Try.prog t = .ok (36, .agg #[]) t := by kernel_rfl

set_option maxRecDepth 100000 in
set_option maxHeartbeats 2000000 in
theorem nopPlay_any (v : Value) (l : List (Bool × Int)) (B : Nat) (w : World) (h : Steps w B v l) (hB : B ≤ w.heap.size) (hl : l.length ≤ 1000) :
    Calls Try.prog 5 #[v] w fun e w' => e = .returned (.tuple #[.int .i64 l.length, .bool true]) ∧ Below w.heap.size w w' := by
  obtain ⟨ao, cap, rfl, h1, h2⟩ := h.form
  have hmS := seek_method
  have hmN := next_method
  have hmE := err_method
  go_enter Try.func5, Try.ntmps5
  go_wp2_with (first | (go_at_call 9; refine (newNop_any _).mono ?_; rintro e w' ⟨rfl, rfl⟩) | fail)
  go_loopw [2, 11] (fun n i wr => ∃ k : Nat, k ≤ l.length ∧ i = .int .i64 k ∧ n = .int .i64 k ∧ Below w.heap.size w wr) (fun _ i _ => l.length - (intOf i).toNat)
  case atStart => exact ⟨0, Nat.zero_le _, rfl, rfl, Below.refl _ _⟩
  case round => as_aux_lemma =>
    obtain ⟨k, hk, rfl, rfl, hbel⟩ := hrel
    by_cases hlt : k < l.length
    · obtain ⟨b, off, rfl, hbB, hBw, hc⟩ := h.at_ (by omega)
      obtain ⟨c0, c1⟩ := hc k hlt
      have c0' := (hbel.cell (p := ⟨b, off + k * 2, none⟩) (show b < w.heap.size by omega)).trans c0
      have c1' := (hbel.cell (p := ⟨b, off + k * 2 + 1, none⟩) (show b < w.heap.size by omega)).trans c1
      clear c0 c1 hc
      generalize l[k] = x at *
      obtain ⟨x0, x1⟩ := x
      have hb1 : ∀ o, Below w.heap.size w (wr.alloc o) := fun o => hbel.alloc hbel.size o
      have i0 : (0 : Int) ≤ (k : Int) := by omega
      have i1 : (k : Int) < (l.length : Int) := by omega
      cases x0 with
      | true =>
        go_wp2_with (first | (go_at_call 38; refine (nopSeek_any _ _).mono ?_; rintro e w' ⟨rfl, hbs⟩; have hb2 := (hb1 _).trans (hbs.mono (hb1 _).size)) | fail)
        go_roundw
        case rel => exact ⟨k + 1, by omega, by simp, by simp, hb2⟩
        case measure => simp [intOf]; omega
      | false =>
        go_wp2_with (first | (go_at_call 37; refine (nopNext_any _).mono ?_; rintro e w' ⟨rfl, hbs⟩; have hb2 := (hb1 _).trans (hbs.mono (hb1 _).size)) | fail)
        go_roundw
        case rel => exact ⟨k + 1, by omega, by simp, by simp, hb2⟩
        case measure => simp [intOf]; omega
    · have hkl : k = l.length := by omega
      subst hkl
      go_wp2_with fail
      go_region_held3 (fun _ => True) (first | trivial | go_keep)
        (first
          | (go_at_call 36; refine (nopErr_any _).mono ?_; rintro e w' ⟨rfl, hbs⟩; have hb2 := hbel.drew.trans (hbs.mono hbel.drew.size))
          | fail)
      go_wp2
      go_ret2
      exact ⟨rfl, hb2⟩

theorem wpList_append_steps {w : World} {ops : Array Oper} {rest : List Oper} {o : Oper} {a : Act} {Q : Exit → Act → World → Prop} (hgd : o.guard = none) (s x : Operand)
    (ho : o.op = .call { callee := .builtin .append, args := #[s, x], argTypes := #[22, 22] }) (hty : o.type = 22)
    (base : Nat) (v : Value) (n : Nat) (l : List (Bool × Int)) (hn0 : 0 < n) (hs : a.eval s = v) (hown : w.ownsRow base 26 2 v n (flatS l)) (v2 : Value) (l2 : List (Bool × Int)) (B : Nat) (hx : a.eval x = v2) (hp : Steps w B v2 l2)
    (hn : n + l2.length ≤ 4294967296) (hbase : base ≤ w.heap.size)
    (h : ∀ v' w', w'.ownsRow base 26 2 v' (n + l2.length) (flatS (l ++ l2)) → w.grownBy w' v.ownBlock → wpList Try.prog ops Q rest (a.put o.dst v') w') : wpList Try.prog ops Q (o :: rest) a w := by
  obtain ⟨v', w', hr, h2, h3⟩ := run_append_steps w base v n l hn0 hown v2 l2 B hp hn hbase
  refine wpList_plain hgd fun _ hK => ?_
  have hw := h v' w' h2 h3
  unfold Oper.wp execOp
  simp only [ho, hty, resolve, invoke, builtin, Sem.run_bind, Sem.run_pure, Result.andThen_ok, List.map_toArray, List.map_cons, List.map_nil, hs, hx, hr]
  exact hK _ _ hw

set_option maxRecDepth 100000 in
set_option maxHeartbeats 2000000 in
theorem wNop (v : Value) (l : List (Bool × Int)) (w : World) (h : Steps w w.heap.size v l) :
    Calls Try.prog 3 #[v] w fun e w' => e = .returned (.bool true) ∧ Below w.heap.size w w' := by
  obtain ⟨ao, cap, rfl, h1, h2⟩ := h.form
  have hB0 : ∀ o, Below w.heap.size w (w.alloc o) := fun o => (Below.refl _ _).alloc (Nat.le_refl _) o
  go_enter Try.func3, Try.ntmps3
  by_cases c1 : 2147483647 < l.length
  · have c1' : (2147483647 : Int) < (l.length : Int) := by omega
    go_wp2_with fail
    go_ret
    exact ⟨rfl, Below.refl _ _⟩
  · by_cases c2 : 100 < l.length
    · have c2' : (100 : Int) < (l.length : Int) := by omega
      go_wp2_with (first | (at_builtin; refine wpList_append_steps rfl (.tmp 13) (.tmp 14) rfl rfl w.heap.size _ 1 [(false, 0)] (by omega) rfl (ownsRow_one w _ _ _) (.slice none 0 0) ([]) w.heap.size rfl (Sl.nil _ _ _ _) (by simp) (by simp) ?_; intro v' w' ho hg) | fail)
      have hb1 : Below w.heap.size w w' := (hB0 _).grown hg (by simp) (fun q hq => ((ownsRow_one w 26 (.bool false) (.int .i64 0)).lt q hq).1)
      refine (nopPlay_any v' ([(false, 0)] ++ []) w'.heap.size w' (Steps.own ho) (Nat.le_refl _) (by simp)).mono ?_
      rintro e w2 ⟨rfl, hb2⟩
      have hb3 := hb1.trans (hb2.mono hb1.size)
      go_wp2_with fail
      go_ret
      exact ⟨rfl, hb3⟩
    · have c2' : ¬ (100 : Int) < (l.length : Int) := by omega
      go_wp2_with (first | (at_builtin; refine wpList_append_steps rfl (.tmp 13) (.tmp 14) rfl rfl w.heap.size _ 1 [(false, 0)] (by omega) rfl (ownsRow_one w _ _ _) (.slice ao l.length cap) (l) w.heap.size rfl (h.below (hB0 _) (Nat.le_refl _)) (by omega) (by simp) ?_; intro v' w' ho hg) | fail)
      have hb1 : Below w.heap.size w w' := (hB0 _).grown hg (by simp) (fun q hq => ((ownsRow_one w 26 (.bool false) (.int .i64 0)).lt q hq).1)
      refine (nopPlay_any v' ([(false, 0)] ++ l) w'.heap.size w' (Steps.own ho) (Nat.le_refl _) (by simp; omega)).mono ?_
      rintro e w2 ⟨rfl, hb2⟩
      have hb3 := hb1.trans (hb2.mono hb1.size)
      have hlen : ([(false, (0 : Int))] ++ l).length = l.length + 1 := by simp
      rw [hlen]
      go_wp2_with fail
      go_ret
      exact ⟨eqb (by simp), hb3⟩
end Go.Proofs.Ytmnfojolielnlaa
