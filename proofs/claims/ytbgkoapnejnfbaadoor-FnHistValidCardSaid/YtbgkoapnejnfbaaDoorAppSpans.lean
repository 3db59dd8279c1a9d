/-
  append(a, b...) of spans: a row that the call owns, and an argument.
-/
import Derived.Test.YtbgkoapnejnfbaaDoorAppend
import Derived.Test.YtbgkoapnejnfbaaDoorUnspans
namespace Go.Proofs.YtbgkoapnejnfbaaDoor
set_option linter.unusedSimpArgs false
set_option linter.unusedVariables false
open Go.RowKit

theorem run_append_spans (w : World) (base : Nat) (v : Value) (n : Nat) (l : List (Int × Int)) (hown : w.ownsRow base 52 2 v n (flat .i32 .u32 l)) (v2 : Value) (l2 : List (Int × Int)) (B : Nat) (hp : Pairs w B .i32 .u32 v2 l2)
    (hn : n + l2.length ≤ 8589934592) (hbase : base ≤ w.heap.size) :
    ∃ v' w', (Builtin.append_ #[23, 23] 23 #[v, v2]).run Tryd.prog w = .ok v' w' ∧ w'.ownsRow base 52 2 v' (n + l2.length) (flat .i32 .u32 (l ++ l2)) ∧ w.grownBy w' v.ownBlock := by
  obtain ⟨i0, hi, hz0, hz1, hz2⟩ := info_parts infoISpan
  have hs := hp
  unfold Pairs at hs
  obtain ⟨ao, cap, rfl, h1, h2⟩ := hp.form
  rw [flat_append]
  cases ao with
  | none =>
    have hl : l2 = [] := by
      rcases Nat.eq_zero_or_pos l2.length with h0 | h0
      · exact List.length_eq_zero_iff.1 h0
      · obtain ⟨b, off, e, _⟩ := hp.at_ h0
        cases e
    subst hl
    refine ⟨v, w, ?_, by simpa [flat] using hown, ⟨rfl, rfl, rfl, Nat.le_refl _, fun _ _ _ => rfl⟩⟩
    rcases hown.2 with ⟨rfl, _⟩ | ⟨g, cap', cur, rfl, k1, k2, k3, k4, k5, k6⟩
    · exact run_append_empty w _ _ _ i0 Tryd.underlying23 hi none cap
    · have := run_append_room_src (P := Tryd.prog) w 23 23 23 52 i0 Tryd.underlying23 hi g 0 n cap' (.slice none 0 cap) 0 [] (Src.ofNil w Tryd.underlying23 cap) (by omega) (fun j hj => absurd hj (by simp)) (fun j hj => absurd hj (by simp))
      rw [show ([] : List (Int × Int)).length = 0 from rfl, this]
      simp [World.setCells]
  | some a =>
    obtain ⟨v', w', hr, ho, hg, _⟩ := run_append_own (P := Tryd.prog) w base 23 23 52 i0 (.agg #[.int .i32 0, .int .u32 0]) 2 8 Tryd.underlying23 hi hz0 hz1 hz2 rfl (by decide) v n _ hown a l2.length cap (flat .i32 .u32 l2) (length_flat _ _ _) (fun j u hj => by
        have hjl := (List.getElem?_eq_some_iff.1 hj).1
        rw [length_flat] at hjl
        obtain ⟨b, off, e, _, _, hc⟩ := hs.at_ (by omega)
        cases e
        have hg := getD_flat .i32 .u32 l2 j hjl
        rw [add_lit, hc j hjl, ← hg, List.getD_eq_getElem?_getD, hj]
        rfl) (fun u hu => by
        unfold flat at hu
        obtain ⟨y, _, hy⟩ := List.mem_flatMap.1 hu
        rcases List.mem_cons.1 hy with rfl | hy
        · rfl
        · rcases List.mem_cons.1 hy with rfl | hy
          · rfl
          · cases hy) (by unfold maxLen; omega) (by omega) hbase
    exact ⟨v', w', hr, ho, hg⟩

theorem step_append_spans {ops : Array Oper} {o : Oper} {a : Act} {K : Act → World → Prop} {Q : Exit → Act → World → Prop} {E : Prop} {w : World} (hgd : o.guard = none) (x y : Operand)
    (ho : o.op = .call { callee := .builtin .append, args := #[x, y], argTypes := #[23, 23] }) (hty : o.type = 23)
    (base : Nat) (v : Value) (n : Nat) (l : List (Int × Int)) (hx : a.eval x = v) (hown : w.ownsRow base 52 2 v n (flat .i32 .u32 l))
    (v2 : Value) (l2 : List (Int × Int)) (B : Nat) (hy : a.eval y = v2) (hp : Pairs w B .i32 .u32 v2 l2) (hn : n + l2.length ≤ 8589934592) (hbase : base ≤ w.heap.size)
    (hK : ∀ v' w', w'.ownsRow base 52 2 v' (n + l2.length) (flat .i32 .u32 (l ++ l2)) → w.grownBy w' v.ownBlock → K (a.put o.dst v') w') :
    if Region.wanted o (yielded ops a.tmps) = true then Oper.wp Tryd.prog o a w K Q else E := by
  have hw : Region.wanted o (yielded ops a.tmps) = true := by simp [Region.wanted, hgd]
  rw [if_pos hw]
  obtain ⟨v', w', hr, h2, h3⟩ := run_append_spans w base v n l hown v2 l2 B hp hn hbase
  unfold Oper.wp execOp
  simp only [ho, hty, resolve, invoke, builtin, Sem.run_bind, Sem.run_pure, Result.andThen_ok, List.map_toArray, List.map_cons, List.map_nil, hx, hy, hr]
  exact hK v' w' h2 h3
end Go.Proofs.YtbgkoapnejnfbaaDoor
