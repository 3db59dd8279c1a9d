/-
  References are copied; postings over a list.
-/
import Derived.Test.YtkbkggamfkadnaaGreatDoorOwn
namespace Go.Proofs.YtkbkggamfkadnaaGreatDoor
set_option linter.unusedSimpArgs false
set_option linter.unusedVariables false
open Go.RowKit

theorem infoRef : (Tryz.prog.info? 140).map (fun i => (i.zero, i.size, i.bytes)) = some (some (.int .u64 0), 1, 8) := by kernel_rfl
theorem infoU64 : (Tryz.prog.info? 26).map (fun i => (i.zero, i.size, i.bytes)) = some (some (.int .u64 0), 1, 8) := by kernel_rfl

set_option maxRecDepth 100000 in
set_option maxHeartbeats 1000000 in
theorem refs_any (v : Value) (l : List Int) (w : World) (h : Ints w w.heap.size .u64 v l) (hl : l.length ≤ 2147483646) :
    Calls Tryz.prog 88 #[v] w fun e w' => ∃ v', e = .returned v' ∧ w'.ownsRow w.heap.size 140 1 v' l.length (l.map (Value.int .u64)) ∧ Below w.heap.size w w' := by
  obtain ⟨i0, hi, hz0, hz1, hz2⟩ := info_parts infoRef
  obtain ⟨ao, cap, rfl, h1, h2⟩ := h.form
  go_enter Tryz.func88, Tryz.ntmps88
  go_wp2_with fail
  go_loopw [3, 8] (fun v i wr => ∃ k : Nat, k ≤ l.length ∧ i = .int .i64 k ∧ wr.ownsRow w.heap.size 140 1 v k ((l.take k).map (Value.int .u64)) ∧ Below w.heap.size w wr) (fun _ i _ => l.length - (intOf i).toNat)
  case atStart => exact ⟨0, Nat.zero_le _, rfl, World.ownsRow_nil _ _ _ _, Below.refl _ _⟩
  case round => as_aux_lemma =>
    obtain ⟨k, hk, rfl, hown, hbel⟩ := hrel
    obtain ⟨za, zc, rfl⟩ := own_form hown
    by_cases hlt : k < l.length
    · obtain ⟨b, off, rfl, hbB, hBw, hc⟩ := h.at_ (by omega)
      have c0 := (hbel.cell (p := ⟨b, off + k, none⟩) (show b < w.heap.size by omega)).trans (hc k hlt)
      clear hc
      have i0' : (0 : Int) ≤ (k : Int) := by omega
      have i1 : (k : Int) < (l.length : Int) := by omega
      have HT := Lib.hid (show (l.take (k + 1)).map (Value.int .u64) = (l.take k).map (Value.int .u64) ++ [.int .u64 l[k]] by rw [take_next hlt, List.map_append]; rfl)
      have hz := hbel.size
      go_wp2_with (first | (at_builtin; refine list_app 118 140 i0 _ 1 8 rfl (.tmp 12) (.tmp 14) rfl rfl Tryz.underlying118 hi hz0 hz1 hz2 rfl (by decide) (by decide) w.heap.size (.slice za k zc) k ((l.take k).map (Value.int .u64)) rfl (own_alloc hown _) wr.heap.size rfl [.int .u64 l[k]] rfl (heap_alloc_new wr _) (one1 _ _) (by omega) (by simp; omega) ?_; intro v' w1 ho hg) | fail)
      have hO := own_alloc hown (.cells #[.int .u64 l[k]] 140)
      have hb1 : Below w.heap.size w w1 := (hbel.alloc hz _).grown hg (by simp; omega) (fun q hq => (hO.lt q hq).1)
      rw [← HT.out] at ho
      clear hown hg hO hbel hz
      go_roundw
      case rel => exact ⟨k + 1, by omega, by simp, ho, hb1⟩
      case measure => simp [intOf]; omega
    · obtain rfl : k = l.length := by omega
      go_wp2_with fail
      go_ret
      exact ⟨_, rfl, by simpa using hown, hbel⟩

set_option maxRecDepth 100000 in
set_option maxHeartbeats 1000000 in
theorem unrefs_any (v : Value) (l : List Int) (w : World) (h : Ints w w.heap.size .u64 v l) (hl : l.length ≤ 2147483646) :
    Calls Tryz.prog 86 #[v] w fun e w' => ∃ v', e = .returned v' ∧ w'.ownsRow w.heap.size 26 1 v' l.length (l.map (Value.int .u64)) ∧ Below w.heap.size w w' := by
  obtain ⟨i0, hi, hz0, hz1, hz2⟩ := info_parts infoU64
  obtain ⟨ao, cap, rfl, h1, h2⟩ := h.form
  go_enter Tryz.func86, Tryz.ntmps86
  go_wp2_with fail
  go_loopw [3, 8] (fun v i wr => ∃ k : Nat, k ≤ l.length ∧ i = .int .i64 k ∧ wr.ownsRow w.heap.size 26 1 v k ((l.take k).map (Value.int .u64)) ∧ Below w.heap.size w wr) (fun _ i _ => l.length - (intOf i).toNat)
  case atStart => exact ⟨0, Nat.zero_le _, rfl, World.ownsRow_nil _ _ _ _, Below.refl _ _⟩
  case round => as_aux_lemma =>
    obtain ⟨k, hk, rfl, hown, hbel⟩ := hrel
    obtain ⟨za, zc, rfl⟩ := own_form hown
    by_cases hlt : k < l.length
    · obtain ⟨b, off, rfl, hbB, hBw, hc⟩ := h.at_ (by omega)
      have c0 := (hbel.cell (p := ⟨b, off + k, none⟩) (show b < w.heap.size by omega)).trans (hc k hlt)
      clear hc
      have i0' : (0 : Int) ≤ (k : Int) := by omega
      have i1 : (k : Int) < (l.length : Int) := by omega
      have HT := Lib.hid (show (l.take (k + 1)).map (Value.int .u64) = (l.take k).map (Value.int .u64) ++ [.int .u64 l[k]] by rw [take_next hlt, List.map_append]; rfl)
      have hz := hbel.size
      go_wp2_with (first | (at_builtin; refine list_app 40 26 i0 _ 1 8 rfl (.tmp 12) (.tmp 14) rfl rfl Tryz.underlying40 hi hz0 hz1 hz2 rfl (by decide) (by decide) w.heap.size (.slice za k zc) k ((l.take k).map (Value.int .u64)) rfl (own_alloc hown _) wr.heap.size rfl [.int .u64 l[k]] rfl (heap_alloc_new wr _) (one1 _ _) (by omega) (by simp; omega) ?_; intro v' w1 ho hg) | fail)
      have hO := own_alloc hown (.cells #[.int .u64 l[k]] 26)
      have hb1 : Below w.heap.size w w1 := (hbel.alloc hz _).grown hg (by simp; omega) (fun q hq => (hO.lt q hq).1)
      rw [← HT.out] at ho
      clear hown hg hO hbel hz
      go_roundw
      case rel => exact ⟨k + 1, by omega, by simp, ho, hb1⟩
      case measure => simp [intOf]; omega
    · obtain rfl : k = l.length := by omega
      go_wp2_with fail
      go_ret
      exact ⟨_, rfl, by simpa using hown, hbel⟩

theorem newList_any (a : Option Addr) (n c : Nat) (w : World) : Calls Tryz.prog 101 #[.slice a n c] w fun e w' => e = .returned (.pointer (some ⟨w.heap.size, 0, none⟩)) ∧ w' = w.alloc (.cells #[.slice a n c, .int .u64 0] 158) := by
  go_enter Tryz.func101, Tryz.ntmps101
  go_wp2_with fail
  go_ret
  exact ⟨rfl, rfl⟩
theorem newListP_any (a : Option Addr) (n c : Nat) (w : World) : Calls Tryz.prog 87 #[.slice a n c] w fun e w' => e = .returned (.iface 142 (.pointer (some ⟨w.heap.size, 0, none⟩))) ∧ w' = w.alloc (.cells #[.slice a n c, .int .u64 0] 158) := by
  go_enter Tryz.func87, Tryz.ntmps87
  go_wp2_with (first | (go_at_call 101; refine (newList_any _ _ _ _).mono ?_; rintro e w' ⟨rfl, rfl⟩) | fail)
  go_ret
  exact ⟨rfl, rfl⟩

/-- postings over a list: at block g, what is left of the list, and the one that was told -/
def LP (g : Nat) (B0 B : Nat) (w : World) (r : List Int) (c : Int) : Prop :=
  ∃ a n k, w.heap[g]? = some (.cells #[.slice a n k, .int .u64 c] 158 (0, 0)) ∧ n = r.length ∧ n ≤ k ∧ k ≤ maxLen ∧ B0 ≤ g ∧ g < B ∧
    (r = [] ∨ ∃ b o, a = some ⟨b, o, none⟩ ∧ B0 ≤ b ∧ b < B ∧ b ≠ g ∧ ∀ i (hi : i < r.length), w.cell? ⟨b, o + i, none⟩ = some (.int .u64 r[i]))

theorem LP.keep {g B0 B : Nat} {w w' : World} {r : List Int} {c : Int} (h : LP g B0 B w r c) {S : Nat → Prop} (hc : Chg S w w') (hs : ∀ k, B0 ≤ k → k < B → ¬ S k) : LP g B0 B w' r c := by
  obtain ⟨a, n, k, h1, h2, h3, h4, h5, h6, h7⟩ := h
  refine ⟨a, n, k, blk_chg hc h1 (hs g h5 h6), h2, h3, h4, h5, h6, ?_⟩
  rcases h7 with h7 | ⟨b, o, h7, h8, h9, h10, h11⟩
  · exact .inl h7
  · exact .inr ⟨b, o, h7, h8, h9, h10, fun i hi => cell_chg hc (h11 i hi) (hs b h8 h9)⟩

set_option maxRecDepth 100000 in
theorem listAt_any {g B0 B : Nat} {w : World} {r : List Int} {c : Int} (h : LP g B0 B w r c) :
    Calls Tryz.prog 138 #[.pointer (some ⟨g, 0, none⟩)] w fun e w' => e = .returned (.int .u64 c) ∧ w = w' := by
  obtain ⟨a, n, k, h1, _⟩ := h
  have c1 := cell_of_block (cs := [_, _]) h1 1
  go_enter Tryz.func138, Tryz.ntmps138
  go_wp2_with fail
  go_ret
  exact ⟨rfl, rfl⟩
theorem listErr_any (v : Value) (w : World) :
    Calls Tryz.prog 139 #[v] w fun e w' => e = .returned .nilIface ∧ w = w' := by
  go_enter Tryz.func139, Tryz.ntmps139
  go_wp2_with fail
  go_ret
  exact ⟨rfl, rfl⟩
theorem two_set {w : World} {g : Nat} {x y : Value} {t : TypeId} {f : Nat × Nat} (h : w.heap[g]? = some (.cells #[x, y] t f)) (y' x' : Value) : ((w.setCell ⟨g, 1, none⟩ y').setCell ⟨g, 0, none⟩ x').heap[g]? = some (.cells #[x', y'] t f) := heap_set (heap_set h y') x'
set_option maxRecDepth 100000 in
theorem listNext_nil {g B0 B : Nat} {w : World} {c : Int} (h : LP g B0 B w [] c) :
    Calls Tryz.prog 141 #[.pointer (some ⟨g, 0, none⟩)] w fun e w' => e = .returned (.bool false) ∧ LP g B0 B w' [] 0 ∧ Chg (· = g) w w' := by
  obtain ⟨a, n, k, h1, h2, h3, h4, h5, h6, h7⟩ := h
  simp only [List.length_nil] at h2
  subst h2
  have c0 := cell_of_block (cs := [_, _]) h1 0
  have c1 := cell_of_block (cs := [_, _]) h1 1
  have z1 := not_frozen h1 1
  have hs := heap_set (j := 1) h1 (.int .u64 0)
  go_enter Tryz.func141, Tryz.ntmps141
  go_wp2_with fail
  go_ret
  exact ⟨rfl, ⟨a, 0, k, hs, rfl, h3, h4, h5, h6, .inl rfl⟩, chg_set _ _ _ _⟩
set_option maxRecDepth 100000 in
set_option maxHeartbeats 1000000 in
theorem listNext_cons {g B0 B : Nat} {w : World} {x : Int} {r : List Int} {c : Int} (h : LP g B0 B w (x :: r) c) :
    Calls Tryz.prog 141 #[.pointer (some ⟨g, 0, none⟩)] w fun e w' => e = .returned (.bool true) ∧ LP g B0 B w' r x ∧ Chg (· = g) w w' := by
  obtain ⟨a, n, k, h1, h2, h3, h4, h5, h6, h7⟩ := h
  rcases h7 with h7 | ⟨b, o, rfl, h8, h9, h10, h11⟩
  · cases h7
  simp only [List.length_cons] at h2
  subst h2
  have c0 := cell_of_block (cs := [_, _]) h1 0
  have c1 := cell_of_block (cs := [_, _]) h1 1
  have z1 := not_frozen h1 1
  have z0 := not_frozen h1 0
  have d0 : w.cell? ⟨b, o, none⟩ = some (.int .u64 x) := h11 0 (by simp)
  have hsz := fun (x' : Value) => two_set h1 (.int .u64 x) x'
  have hch := fun (x' : Value) => (chg_set w g 1 (.int .u64 x)).setCell ⟨g, 0, none⟩ rfl x'
  have hn0 : (0 : Int) < ((r.length + 1 : Nat) : Int) := by omega
  have hn1 : (1 : Int) ≤ ((r.length + 1 : Nat) : Int) := by omega
  have hgb : ¬ g = b := fun e => h10 e.symm
  have e1 : w.cell? ⟨b, o, none⟩ = some (.int .u64 x) := d0
  have hcell : ∀ (x' : Value) i (hi : i < r.length), ((w.setCell ⟨g, 1, none⟩ (.int .u64 x)).setCell ⟨g, 0, none⟩ x').cell? ⟨b, o + 1 + i, none⟩ = some (.int .u64 r[i]) := fun x' i hi => by
    refine cell_chg (hch x') (p := ⟨b, o + 1 + i, none⟩) ?_ h10
    have := h11 (i + 1) (by simp; omega)
    rw [show o + 1 + i = o + (i + 1) by omega]
    exact this
  have HS := Lib.hid hsz
  have HC := Lib.hid hcell
  have HH := Lib.hid hch
  clear hsz hcell hch h11 e1 h1
  by_cases hk : k = 1
  · subst hk
    have hr : r = [] := List.length_eq_zero_iff.1 (by omega)
    subst hr
    go_enter Tryz.func141, Tryz.ntmps141
    go_wp2_with fail
    go_ret
    exact ⟨rfl, ⟨_, 0, 0, HS.out _, rfl, Nat.le_refl _, by decide, h5, h6, .inl rfl⟩, HH.out _⟩
  · have hk1 : ¬ (1 : Int) = (k : Int) := by omega
    have hk2 : (1 : Int) ≤ (k : Int) := by omega
    go_enter Tryz.func141, Tryz.ntmps141
    go_wp2_with fail
    go_ret
    exact ⟨rfl, ⟨_, r.length, k - 1, HS.out _, rfl, by omega, by omega, h5, h6, .inr ⟨b, o + 1, rfl, h8, h9, h10, fun i hi => HC.out _ i hi⟩⟩, HH.out _⟩
end Go.Proofs.YtkbkggamfkadnaaGreatDoor
