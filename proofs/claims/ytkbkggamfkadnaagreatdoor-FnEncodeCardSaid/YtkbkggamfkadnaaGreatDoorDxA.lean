/-
  Decbuf: each number that is got, in one contract: it is there, it is not whole, or there was an error already. Decbuf: numbers that are converted; signed ones. Decbuf: signed numbers. Decbuf: bytes with their length.
-/
import Derived.Test.YtkbkggamfkadnaaGreatDoorDecG2
import Derived.Test.YtkbkggamfkadnaaGreatDoorDec64
import Derived.Laws.BitsAllLaws
import Derived.Laws.Externs
import Derived.Deep.Cut
namespace Go.Proofs.YtkbkggamfkadnaaGreatDoor
set_option linter.unusedSimpArgs false
set_option linter.unusedVariables false
open Go.RowKit

/-- what a Decbuf is behind a datum: the datum is there, or there is an error -/
def DRes (D : Nat) (w' : World) (E : Value) (o : Option (Nat × List UInt8)) (x : Nat) : Prop :=
  (∃ r, E = .nilIface ∧ o = some (x, r) ∧ DSt D w' r .nilIface) ∨ ((E ≠ .nilIface ∨ o = none) ∧ x = 0 ∧ ∃ m t u, m.length ≤ 2147483647 ∧ DSt D w' m (.iface t u))
/-- the variable of the error -/
def ErrV (w : World) : Prop := ∃ t u, w.cell? ⟨EG, 0, none⟩ = some (.iface t u)
/-- a function of a Decbuf that gets a number -/
def Num (f : FuncId) (val : Nat → Value) (dec : List UInt8 → Option (Nat × List UInt8)) : Prop :=
  ∀ (D : Nat) (m : List UInt8) (E : Value) (w : World), DSt D w m E → (E = .nilIface ∨ ∃ t u, E = .iface t u) → m.length ≤ 2147483647 → ErrV w →
    Calls Tryz.prog f #[.pointer (some ⟨D, 0, none⟩)] w fun e w' => ∃ x, e = .returned (val x) ∧ DRes D w' E (dec m) x ∧ Chg (fun q => q = D) w w'
/-- a number of k bytes; one in groups of seven bits -/
def decB (k : Nat) (m : List UInt8) : Option (Nat × List UInt8) := if k ≤ m.length then some (Lib.beNat (m.take k), m.drop k) else none
def decU (m : List UInt8) : Option (Nat × List UInt8) := if uOk m = true then some ((uvar (m.take 10)).1, m.drop (uvar (m.take 10)).2) else none
theorem decB_lt {k : Nat} {m r : List UInt8} {x : Nat} (h : decB k m = some (x, r)) : x < 256 ^ k ∧ r.length ≤ m.length := by
  unfold decB at h
  split at h
  · rename_i hk
    injection h with h
    injection h with h1 h2
    subst h1
    subst h2
    have := beNat_lt (m.take k)
    rw [List.length_take, Nat.min_eq_left hk] at this
    exact ⟨this, by simp⟩
  · cases h
theorem decU_some {m r : List UInt8} {x : Nat} (h : decU m = some (x, r)) : uOk m = true ∧ x = (uvar (m.take 10)).1 ∧ r = m.drop (uvar (m.take 10)).2 := by
  unfold decU at h
  split at h
  · rename_i hk
    injection h with h
    injection h with h1 h2
    exact ⟨hk, h1.symm, h2.symm⟩
  · cases h

theorem DRes.ok {D : Nat} {w' : World} {r : List UInt8} {x : Nat} {o : Option (Nat × List UInt8)} (ho : o = some (x, r)) (h : DSt D w' r .nilIface) : DRes D w' .nilIface o x := .inl ⟨r, rfl, ho, h⟩
theorem DRes.bad {D : Nat} {w' : World} {m : List UInt8} {o : Option (Nat × List UInt8)} {E : Value} {t : TypeId} {u : Value} (ho : E ≠ .nilIface ∨ o = none) (hm : m.length ≤ 2147483647) (h : DSt D w' m (.iface t u)) : DRes D w' E o 0 := .inr ⟨ho, rfl, m, t, u, hm, h⟩
theorem Num.of {f : FuncId} {val : Nat → Value} {dec : List UInt8 → Option (Nat × List UInt8)}
    (h1 : ∀ (D : Nat) (m : List UInt8) (w : World) (x : Nat) (r : List UInt8), DSt D w m .nilIface → m.length ≤ 2147483647 → dec m = some (x, r) → Calls Tryz.prog f #[.pointer (some ⟨D, 0, none⟩)] w fun e w' => e = .returned (val x) ∧ DSt D w' r .nilIface ∧ Chg (fun q => q = D) w w')
    (h2 : ∀ (D : Nat) (m : List UInt8) (w : World) (t : TypeId) (u : Value), DSt D w m .nilIface → m.length ≤ 2147483647 → dec m = none → w.cell? ⟨EG, 0, none⟩ = some (.iface t u) → Calls Tryz.prog f #[.pointer (some ⟨D, 0, none⟩)] w fun e w' => e = .returned (val 0) ∧ (∃ m', m'.length ≤ 2147483647 ∧ DSt D w' m' (.iface t u)) ∧ Chg (fun q => q = D) w w')
    (h3 : ∀ (D : Nat) (m : List UInt8) (w : World) (t : TypeId) (u : Value), DSt D w m (.iface t u) → Calls Tryz.prog f #[.pointer (some ⟨D, 0, none⟩)] w fun e w' => e = .returned (val 0) ∧ w = w') : Num f val dec := by
  rintro D m E w h hE hl ⟨t, u, hg⟩
  rcases hE with rfl | ⟨t2, u2, rfl⟩
  · cases hd : dec m with
    | some p =>
      obtain ⟨x, r⟩ := p
      exact (h1 D m w x r h hl hd).mono fun e w' ⟨he, hr, hc⟩ => ⟨x, he, DRes.ok (by first | rfl | exact hd) hr, hc⟩
    | none => exact (h2 D m w t u h hl hd hg).mono fun e w' ⟨he, ⟨m', hm', hr⟩, hc⟩ => ⟨0, he, DRes.bad (.inr (by first | rfl | exact hd)) hm' hr, hc⟩
  · exact (h3 D m w t2 u2 h).mono fun e w' ⟨he, hw⟩ => ⟨0, he, DRes.bad (.inl (by simp)) hl (hw ▸ h), hw ▸ Chg.refl _ _⟩

theorem DRes.lt {D : Nat} {w' : World} {E : Value} {o : Option (Nat × List UInt8)} {x B : Nat} (h : DRes D w' E o x) (hB : ∀ y r, o = some (y, r) → y < B) (h0 : 0 < B) : x < B := by
  rcases h with ⟨r, _, h, _⟩ | ⟨_, rfl, _⟩
  · exact hB _ _ h
  · exact h0
theorem byte_num : Num 59 (fun x => .int .u8 x) (decB 1) := by
  refine Num.of (fun D m w x r h hl hd => ?_) (fun D m w t u h hl hd hg => ?_) (fun D m w t u h => byte_err D w m t u h)
  · match m, h, hl, hd with
    | [], _, _, hd => simp [decB] at hd
    | b :: m, h, _, hd =>
      simp [decB, Lib.beNat, Lib.beFrom] at hd
      obtain ⟨h1, h2⟩ := hd
      subst h1
      subst h2
      exact byte_ok D b m w h
  · match m, h, hl, hd with
    | [], h, _, _ => exact (byte_short D w t u h hg).mono fun e w' ⟨a, b, c⟩ => ⟨a, ⟨[], by simp, b⟩, c⟩
    | b :: m, _, _, hd => simp [decB] at hd
theorem cons4 {m : List UInt8} (h : 4 ≤ m.length) : ∃ b0 b1 b2 b3 r, m = b0 :: b1 :: b2 :: b3 :: r := by
  match m, h with
  | b0 :: b1 :: b2 :: b3 :: r, _ => exact ⟨b0, b1, b2, b3, r, rfl⟩
set_option maxRecDepth 100000 in
theorem be32_err (D : Nat) (w : World) (m : List UInt8) (t : TypeId) (u : Value) (h : DSt D w m (.iface t u)) :
    Calls Tryz.prog 60 #[.pointer (some ⟨D, 0, none⟩)] w fun e w' => e = .returned (.int .u32 0) ∧ w = w' := by
  obtain ⟨v, hD, hB⟩ := h
  have k1 := hD.cell 1
  go_enter Tryz.func60, Tryz.ntmps60
  go_wp2_with fail
  go_ret
  exact ⟨rfl, rfl⟩
set_option maxRecDepth 100000 in
theorem be64_err (D : Nat) (w : World) (m : List UInt8) (t : TypeId) (u : Value) (h : DSt D w m (.iface t u)) :
    Calls Tryz.prog 61 #[.pointer (some ⟨D, 0, none⟩)] w fun e w' => e = .returned (.int .u64 0) ∧ w = w' := by
  obtain ⟨v, hD, hB⟩ := h
  have k1 := hD.cell 1
  go_enter Tryz.func61, Tryz.ntmps61
  go_wp2_with fail
  go_ret
  exact ⟨rfl, rfl⟩
set_option maxRecDepth 100000 in
set_option maxHeartbeats 2000000 in
theorem be64_short (D : Nat) (v : Value) (m : List UInt8) (w : World) (t : TypeId) (u : Value) (hD : Blk w D [v, .nilIface] DT) (hB : BB w D v m) (hE : w.cell? ⟨EG, 0, none⟩ = some (.iface t u)) (hm : m.length < 8) :
    Calls Tryz.prog 61 #[.pointer (some ⟨D, 0, none⟩)] w fun e w' => e = .returned (.int .u64 0) ∧ Blk w' D [v, .iface t u] DT ∧ Chg (fun q => q = D) w w' := by
  obtain ⟨ao, cap, rfl, h1, h2⟩ := hB.form
  have k0 := hD.cell 0
  have k1 := hD.cell 1
  have z1 := hD.free 1
  have n1 : (m.length : Int) < 8 := by omega
  go_enter Tryz.func61, Tryz.ntmps61
  go_wp2_with fail
  go_ret
  exact ⟨rfl, hD.set 1 _, chg_set _ _ _ _⟩
theorem be32_num : Num 60 (fun x => .int .u32 x) (decB 4) := by
  refine Num.of (fun D m w x r h hl hd => ?_) (fun D m w t u h hl hd hg => ?_) (fun D m w t u h => be32_err D w m t u h)
  · unfold decB at hd
    split at hd
    · rename_i h4
      obtain ⟨v, hD, hB⟩ := h
      obtain ⟨b0, b1, b2, b3, r', rfl⟩ := cons4 h4
      simp at hd
      obtain ⟨h1, h2⟩ := hd
      subst h1
      subst h2
      exact (be32_ok D v b0 b1 b2 b3 r' w hD hB).mono fun e w' ⟨he, v', a, b, c⟩ => ⟨he, ⟨v', a, b⟩, c⟩
    · cases hd
  · obtain ⟨v, hD, hB⟩ := h
    have h4 : m.length < 4 := by
      unfold decB at hd
      split at hd
      · cases hd
      · omega
    exact (be32_short D v m w t u hD hB hg h4).mono fun e w' ⟨a, b, c⟩ => ⟨a, ⟨m, hl, v, b, BB.chg hB c (Nat.le_of_lt hD.lt) (fun q hq => by omega)⟩, c⟩
theorem be64_num : Num 61 (fun x => .int .u64 x) (decB 8) := by
  refine Num.of (fun D m w x r h hl hd => ?_) (fun D m w t u h hl hd hg => ?_) (fun D m w t u h => be64_err D w m t u h)
  · unfold decB at hd
    split at hd
    · rename_i h8
      obtain ⟨v, hD, hB⟩ := h
      simp at hd
      obtain ⟨h1, h2⟩ := hd
      subst h1
      subst h2
      exact (be64_ok D v m w hD hB h8).mono fun e w' ⟨he, v', a, b, c⟩ => ⟨he, ⟨v', a, b⟩, c⟩
    · cases hd
  · obtain ⟨v, hD, hB⟩ := h
    have h8 : m.length < 8 := by
      unfold decB at hd
      split at hd
      · cases hd
      · omega
    exact (be64_short D v m w t u hD hB hg h8).mono fun e w' ⟨a, b, c⟩ => ⟨a, ⟨m, hl, v, b, BB.chg hB c (Nat.le_of_lt hD.lt) (fun q hq => by omega)⟩, c⟩
theorem uv64_num : Num 68 (fun x => .int .u64 x) decU := by
  refine Num.of (fun D m w x r h hl hd => ?_) (fun D m w t u h hl hd hg => ?_) (fun D m w t u h => uv64_err D w m t u h)
  · obtain ⟨h1, rfl, rfl⟩ := decU_some hd
    exact uv64_ok D m w h hl h1
  · have h0 : uOk m = false := by
      unfold decU at hd
      split at hd
      · cases hd
      · rename_i h; simpa using h
    exact (uv64_bad D m w t u h hl h0 hg).mono fun e w' ⟨a, b, c⟩ => ⟨a, ⟨m, hl, b⟩, c⟩
end Go.Proofs.YtkbkggamfkadnaaGreatDoor
namespace Go.Proofs.YtkbkggamfkadnaaGreatDoor
set_option linter.unusedSimpArgs false
set_option linter.unusedVariables false
open Go.RowKit

theorem uvar_top : ∀ (l : List UInt8) (k : Nat), (uvar l).2 = k + 1 → (uvar l).1 < 128 ^ k * ((l.getD k 0).toNat + 1)
  | [], k, h => by simp [uvar] at h
  | b :: r, k, h => by
    by_cases hb : b.toNat < 128
    · have e : uvar (b :: r) = (b.toNat, 1) := by simp [uvar, hb]
      rw [e] at h ⊢
      obtain rfl : k = 0 := by simpa using h.symm
      simp
    · by_cases h0 : (uvar r).2 = 0
      · have e : uvar (b :: r) = (0, 0) := by simp [uvar, hb, h0]
        rw [e] at h
        simp at h
      · have e : uvar (b :: r) = (b.toNat % 128 + 128 * (uvar r).1, (uvar r).2 + 1) := by simp [uvar, hb, h0]
        rw [e] at h ⊢
        simp only at h ⊢
        obtain ⟨j, hj⟩ : ∃ j, (uvar r).2 = j + 1 := ⟨(uvar r).2 - 1, by omega⟩
        obtain rfl : k = j + 1 := by omega
        have := uvar_top r j hj
        rw [List.getD_cons_succ, Nat.pow_succ]
        generalize (r.getD j 0).toNat + 1 = c at *
        have e2 : 128 ^ j * 128 * c = 128 * (128 ^ j * c) := by rw [Nat.mul_comm (128 ^ j) 128, Nat.mul_assoc]
        rw [e2]
        omega
theorem uOk_lt {m : List UInt8} (h : uOk m = true) : (uvar (m.take 10)).1 < 18446744073709551616 := by
  have h2 := uvar_le (m.take 10)
  rw [List.length_take] at h2
  unfold uOk at h
  simp only [Bool.and_eq_true, Bool.not_eq_true', decide_eq_true_eq, Bool.and_eq_false_iff, decide_eq_false_iff_not] at h
  obtain ⟨k, hk⟩ : ∃ k, (uvar (m.take 10)).2 = k + 1 := ⟨(uvar (m.take 10)).2 - 1, by omega⟩
  have h3 := uvar_top _ k hk
  have hc := ((m.take 10).getD k 0).toNat_lt
  by_cases h9 : k = 9
  · subst h9
    have h4 : (m.getD 9 0).toNat ≤ 1 := by
      rcases h.2 with h | h
      · omega
      · omega
    have e : (m.take 10).getD 9 0 = m.getD 9 0 := by simp [List.getD_eq_getElem?_getD, List.getElem?_take]
    rw [e] at h3
    have : 128 ^ 9 * ((m.getD 9 0).toNat + 1) ≤ 128 ^ 9 * 2 := Nat.mul_le_mul_left _ (by omega)
    omega
  · have hl : ((m.take 10).getD k 0).toNat < 128 ∨ True := .inr trivial
    have h5 : 128 ^ k * (((m.take 10).getD k 0).toNat + 1) ≤ 128 ^ 8 * 256 := Nat.mul_le_mul (Nat.pow_le_pow_right (by decide) (by omega)) (by omega)
    omega
theorem decU_lt {m r : List UInt8} {x : Nat} (h : decU m = some (x, r)) : x < 18446744073709551616 := by
  obtain ⟨h1, rfl, _⟩ := decU_some h
  exact uOk_lt h1

set_option maxRecDepth 100000 in
theorem be32int_num : Num 62 (fun x => .int .i64 x) (decB 4) := by
  intro D m E w h hE hl hg
  have hG := be32_num D m E w h hE hl hg
  have hlt : ∀ y r, (decB 4) m = some (y, r) → y < 4294967296 := fun y r h => by have := (decB_lt h).1; omega
  go_enter Tryz.func62, Tryz.ntmps62
  go_wp2_with fail
  refine hG.mono ?_
  rintro e w1 ⟨x, rfl, hd, hc⟩
  have hx := hd.lt hlt (by decide)
  have hx0 : (0 : Int) ≤ (x : Int) := by omega
  have hx1 : (x : Int) < 4294967296 := by omega
  go_wp2_with fail
  go_ret
  exact ⟨x, rfl, hd, hc⟩

set_option maxRecDepth 100000 in
theorem be64i_num : Num 63 (fun x => .int .i64 (wrap64 x)) (decB 8) := by
  intro D m E w h hE hl hg
  have hG := be64_num D m E w h hE hl hg
  have hlt : ∀ y r, (decB 8) m = some (y, r) → y < 18446744073709551616 := fun y r h => by have := (decB_lt h).1; omega
  go_enter Tryz.func63, Tryz.ntmps63
  go_wp2_with fail
  refine hG.mono ?_
  rintro e w1 ⟨x, rfl, hd, hc⟩
  have hx := hd.lt hlt (by decide)
  have hx0 : (0 : Int) ≤ (x : Int) := by omega
  have hx1 : (x : Int) < 18446744073709551616 := by omega
  go_wp2_with fail
  go_ret
  exact ⟨x, rfl, hd, hc⟩

set_option maxRecDepth 100000 in
theorem uvInt_num : Num 66 (fun x => .int .i64 (wrap64 x)) (decU) := by
  intro D m E w h hE hl hg
  have hG := uv64_num D m E w h hE hl hg
  have hlt : ∀ y r, (decU) m = some (y, r) → y < 18446744073709551616 := fun y r h => by have := decU_lt h; omega
  go_enter Tryz.func66, Tryz.ntmps66
  go_wp2_with fail
  refine hG.mono ?_
  rintro e w1 ⟨x, rfl, hd, hc⟩
  have hx := hd.lt hlt (by decide)
  have hx0 : (0 : Int) ≤ (x : Int) := by omega
  have hx1 : (x : Int) < 18446744073709551616 := by omega
  go_wp2_with fail
  go_ret
  exact ⟨x, rfl, hd, hc⟩

set_option maxRecDepth 100000 in
theorem uv32_num : Num 67 (fun x => .int .u32 ((x : Int) % 4294967296)) (decU) := by
  intro D m E w h hE hl hg
  have hG := uv64_num D m E w h hE hl hg
  have hlt : ∀ y r, (decU) m = some (y, r) → y < 18446744073709551616 := fun y r h => by have := decU_lt h; omega
  go_enter Tryz.func67, Tryz.ntmps67
  go_wp2_with fail
  refine hG.mono ?_
  rintro e w1 ⟨x, rfl, hd, hc⟩
  have hx := hd.lt hlt (by decide)
  have hx0 : (0 : Int) ≤ (x : Int) := by omega
  have hx1 : (x : Int) < 18446744073709551616 := by omega
  go_wp2_with fail
  go_ret
  exact ⟨x, rfl, hd, hc⟩

set_option maxRecDepth 100000 in
theorem f64from (n : Int) (w : World) : (callFunc 76 #[.int .u64 n]).run Tryz.prog w = .ok (.value (.float .f64 n.toNat)) w := rfl
set_option maxRecDepth 100000 in
theorem f64bits (n : Nat) (w : World) : (callFunc 75 #[.float .f64 n]).run Tryz.prog w = .ok (.value (.int .u64 n)) w := rfl
set_option maxRecDepth 100000 in
theorem be64f_num : Num 65 (fun x => .float .f64 x) (decB 8) := by
  intro D m E w h hE hl hg
  have hG := be64_num D m E w h hE hl hg
  have hx := f64from
  go_enter Tryz.func65, Tryz.ntmps65
  go_wp2_with (first
    | (go_at_call 61; refine hG.mono ?_; rintro e w1 ⟨x, rfl, hd, hc⟩)
    | fail)
  go_ret
  exact ⟨x, rfl, hd, hc⟩
end Go.Proofs.YtkbkggamfkadnaaGreatDoor
namespace Go.Proofs.YtkbkggamfkadnaaGreatDoor
set_option linter.unusedSimpArgs false
set_option linter.unusedVariables false
open Go.RowKit

/-- a signed number out of its own: even ones for 0 and above, odd ones for those below -/
def zagI (X : Nat) : Int := if X % 2 = 1 then -((X : Int) / 2) - 1 else (X : Int) / 2
theorem and1 (X : Nat) (h : X < 18446744073709551616) : bits .and .u64 (X : Int) 1 = ((X % 2 : Nat) : Int) := by
  have := u64_and_nat X 1 h (by omega)
  rw [nat_mask1] at this
  exact this
theorem xor_m1 (y : Nat) (h : y < 9223372036854775808) : bits .xor .i64 (-1) (y : Int) = -(y : Int) - 1 := by
  show IntKind.i64.wrap ((BitVec.ofInt 64 (-1) ^^^ BitVec.ofInt 64 (y : Int)).toNat : Int) = _
  have e1 : (BitVec.ofInt 64 (-1)) = BitVec.allOnes 64 := by decide
  rw [e1, BitVec.allOnes_xor, BitVec.toNat_not, BitVec.ofInt_natCast, BitVec.toNat_ofNat, Nat.mod_eq_of_lt (by omega)]
  have e : ((2 ^ 64 - 1 - y : Nat) : Int) = 18446744073709551616 - 1 - y := by omega
  rw [e]
  simp [IntKind.wrap, IntKind.bits, IntKind.signed]
  omega
set_option maxRecDepth 100000 in
set_option maxHeartbeats 4000000 in
theorem var64_ok (D : Nat) (m : List UInt8) (w : World) (h : DSt D w m .nilIface) (hl : m.length ≤ 2147483647) (hok : uOk m = true) :
    Calls Tryz.prog 69 #[.pointer (some ⟨D, 0, none⟩)] w fun e w' => e = .returned (.int .i64 (zagI (uvar (m.take 10)).1)) ∧ DSt D w' (m.drop (uvar (m.take 10)).2) .nilIface ∧ Chg (fun q => q = D) w w' := by
  have hX := uOk_lt hok
  obtain ⟨v, hD, hB⟩ := h
  have hBy : Bytes w v m := Sl.mono hB (Nat.le_of_lt hD.lt) (Nat.le_refl _)
  have hUv := uvarint_any v m w hBy hl
  have hp := uvar_pos hok
  obtain ⟨ao, cap, rfl, h1, h2⟩ := hB.form
  obtain ⟨b, off, rfl, hb, hbB, hc⟩ := hB.at_ (by omega)
  have hUc : Calls Tryz.prog 81 #[.slice (some ⟨b, off, none⟩) m.length cap] w fun e w' => e = .returned (.tuple #[.int .u64 ((uvar (m.take 10)).1 : Nat), .int .i64 ((uvar (m.take 10)).2 : Nat)]) ∧ w = w' :=
    hUv.mono fun e w' ⟨x, n, he, hw, hx, _⟩ => ⟨by rw [he, (hx hok).1, (hx hok).2], hw⟩
  have hdr := hB.drop (uvar (m.take 10)).2 hp.2.1
  have hnil : cap = (uvar (m.take 10)).2 → m.drop (uvar (m.take 10)).2 = [] := fun h => List.drop_eq_nil_of_le (by omega)
  have hA := and1 _ hX
  generalize m.drop (uvar (m.take 10)).2 = r at *
  generalize (uvar (m.take 10)).1 = X at *
  generalize (uvar (m.take 10)).2 = u at *
  have hXo := xor_m1 (X / 2) (by omega)
  rw [Int.natCast_ediv] at hXo
  rw [show ((2 : Nat) : Int) = 2 from rfl] at hXo
  clear hUv hc hBy hok hB
  generalize m.length = n at *
  have k0 := hD.cell 0
  have k1 := hD.cell 1
  have z0 := hD.free 0
  have n1 : ¬ (u : Int) < 1 := by omega
  have n2 : (u : Int) ≤ (n : Int) := by omega
  have n3 : (u : Int) ≤ (cap : Int) := by omega
  have n4 : (0 : Int) ≤ (u : Int) := by omega
  have n5 : (0 : Int) ≤ (X : Int) := by omega
  have n6 : (X : Int) < 18446744073709551616 := by omega
  by_cases hodd : X % 2 = 1
  · rw [hodd] at hA
    have HZ : Hid (zagI X = -((X : Int) / 2) - 1) := Lib.hid (by unfold zagI; rw [if_pos hodd])
    clear hodd hX
    generalize (X : Int) = Z at *
    by_cases hk : cap = u
    · obtain rfl := hnil hk
      subst hk
      obtain rfl : n = cap := by omega
      go_enter Tryz.func69, Tryz.ntmps69
      go_wp2_with (first
        | (go_at_call 81; refine hUc.mono ?_; rintro e w' ⟨rfl, rfl⟩)
        | fail)
      go_ret
      exact ⟨by rw [HZ.out]; rfl, ⟨_, hD.set 0 _, by first | exact BB.empty _ _ _ | (have := BB.empty (w.setCell ⟨D, 0, none⟩ (.slice (some ⟨b, off, none⟩) 0 0)) D (some ⟨b, off, none⟩); simpa using this)⟩, chg_set _ _ _ _⟩
    · go_enter Tryz.func69, Tryz.ntmps69
      go_wp2_with (first
        | (go_at_call 81; refine hUc.mono ?_; rintro e w' ⟨rfl, rfl⟩)
        | fail)
      go_ret
      exact ⟨by rw [HZ.out]; rfl, ⟨_, hD.set 0 _, BB.chg hdr (chg_set _ _ _ _) (by omega) (fun q hq => by omega)⟩, chg_set _ _ _ _⟩
  · rw [show X % 2 = 0 by omega] at hA
    have HZ : Hid (zagI X = (X : Int) / 2) := Lib.hid (by unfold zagI; rw [if_neg hodd])
    clear hodd hX hXo
    generalize (X : Int) = Z at *
    by_cases hk : cap = u
    · obtain rfl := hnil hk
      subst hk
      obtain rfl : n = cap := by omega
      go_enter Tryz.func69, Tryz.ntmps69
      go_wp2_with (first
        | (go_at_call 81; refine hUc.mono ?_; rintro e w' ⟨rfl, rfl⟩)
        | fail)
      go_ret
      exact ⟨by rw [HZ.out]; rfl, ⟨_, hD.set 0 _, by first | exact BB.empty _ _ _ | (have := BB.empty (w.setCell ⟨D, 0, none⟩ (.slice (some ⟨b, off, none⟩) 0 0)) D (some ⟨b, off, none⟩); simpa using this)⟩, chg_set _ _ _ _⟩
    · go_enter Tryz.func69, Tryz.ntmps69
      go_wp2_with (first
        | (go_at_call 81; refine hUc.mono ?_; rintro e w' ⟨rfl, rfl⟩)
        | fail)
      go_ret
      exact ⟨by rw [HZ.out]; rfl, ⟨_, hD.set 0 _, BB.chg hdr (chg_set _ _ _ _) (by omega) (fun q hq => by omega)⟩, chg_set _ _ _ _⟩
set_option maxRecDepth 100000 in
set_option maxHeartbeats 2000000 in
theorem var64_bad (D : Nat) (m : List UInt8) (w : World) (t : TypeId) (u : Value) (h : DSt D w m .nilIface) (hl : m.length ≤ 2147483647) (hok : uOk m = false) (hE : w.cell? ⟨EG, 0, none⟩ = some (.iface t u)) :
    Calls Tryz.prog 69 #[.pointer (some ⟨D, 0, none⟩)] w fun e w' => e = .returned (.int .i64 0) ∧ DSt D w' m (.iface t u) ∧ Chg (fun q => q = D) w w' := by
  obtain ⟨v, hD, hB⟩ := h
  have hBy : Bytes w v m := Sl.mono hB (Nat.le_of_lt hD.lt) (Nat.le_refl _)
  have hUv := uvarint_any v m w hBy hl
  obtain ⟨ao, cap, rfl, h1, h2⟩ := hB.form
  have k0 := hD.cell 0
  have k1 := hD.cell 1
  have z1 := hD.free 1
  have HB := Lib.hid hB
  clear hBy hB h1
  go_enter Tryz.func69, Tryz.ntmps69
  go_wp2_with (first
    | (go_at_call 81; refine hUv.mono ?_; rintro e w' ⟨x, n, rfl, rfl, -, hx⟩; have hn : n < 1 := by have := hx hok; omega)
    | fail)
  go_ret
  exact ⟨rfl, ⟨_, hD.set 1 _, BB.chg HB.out (chg_set _ D 1 _) (Nat.le_of_lt hD.lt) (fun q hq => by omega)⟩, chg_set _ _ _ _⟩
set_option maxRecDepth 100000 in
theorem var64_err (D : Nat) (w : World) (m : List UInt8) (t : TypeId) (u : Value) (h : DSt D w m (.iface t u)) :
    Calls Tryz.prog 69 #[.pointer (some ⟨D, 0, none⟩)] w fun e w' => e = .returned (.int .i64 0) ∧ w = w' := by
  obtain ⟨v, hD, hB⟩ := h
  have k1 := hD.cell 1
  go_enter Tryz.func69, Tryz.ntmps69
  go_wp2_with fail
  go_ret
  exact ⟨rfl, rfl⟩
theorem var64_num : Num 69 (fun x => .int .i64 (zagI x)) decU := by
  refine Num.of (fun D m w x r h hl hd => ?_) (fun D m w t u h hl hd hg => ?_) (fun D m w t u h => var64_err D w m t u h)
  · obtain ⟨h1, rfl, rfl⟩ := decU_some hd
    exact var64_ok D m w h hl h1
  · have h0 : uOk m = false := by
      unfold decU at hd
      split at hd
      · cases hd
      · rename_i h; simpa using h
    exact (var64_bad D m w t u h hl h0 hg).mono fun e w' ⟨a, b, c⟩ => ⟨a, ⟨m, hl, b⟩, c⟩
end Go.Proofs.YtkbkggamfkadnaaGreatDoor
namespace Go.Proofs.YtkbkggamfkadnaaGreatDoor
set_option linter.unusedSimpArgs false
set_option linter.unusedVariables false
open Go.RowKit

/-- bytes that have their length ahead of them -/
def decS (m : List UInt8) : Option (List UInt8 × List UInt8) :=
  match decU m with
  | none => none
  | some (X, r) => if X ≤ r.length then some (r.take X, r.drop X) else none
/-- what a Decbuf is behind bytes -/
def SRs (D : Nat) (w' : World) (E : Value) (o : Option (List UInt8 × List UInt8)) (x : Value) : Prop :=
  (∃ s r, E = .nilIface ∧ o = some (s, r) ∧ BB w' D x s ∧ DSt D w' r .nilIface) ∨ ((E ≠ .nilIface ∨ o = none) ∧ Bytes w' x [] ∧ ∃ m t u, m.length ≤ 2147483647 ∧ DSt D w' m (.iface t u))
theorem bytes_new (w : World) : Bytes (w.alloc (.cells #[] 5)) (.slice (some ⟨w.heap.size, 0, none⟩) 0 0) [] := ⟨_, 0, rfl, Nat.le_refl _, by decide, .inl rfl⟩

set_option maxRecDepth 100000 in
set_option maxHeartbeats 2000000 in
theorem ubytes_ok (D : Nat) (m : List UInt8) (w : World) (h : DSt D w m .nilIface) (hl : m.length ≤ 2147483647) (hok : uOk m = true) (X : Nat) (r : List UInt8) (hX : (uvar (m.take 10)).1 = X) (hr0 : m.drop (uvar (m.take 10)).2 = r) (hr : X ≤ r.length) (hrl : r.length ≤ 2147483647) :
    Calls Tryz.prog 71 #[.pointer (some ⟨D, 0, none⟩)] w fun e w' => ∃ a k c, e = .returned (.slice a k c) ∧ BB w' D (.slice a k c) (r.take X) ∧ DSt D w' (r.drop X) .nilIface ∧ Chg (fun q => q = D) w w' := by
  have hU := uv64_ok D m w h hl hok
  rw [hX, hr0] at hU
  clear hX hr0 h hl hok
  have n0 : (0 : Int) ≤ (X : Int) := by omega
  have n1 : (X : Int) ≤ 2147483647 := by omega
  go_enter Tryz.func71, Tryz.ntmps71
  go_upto_region 2 with (first
    | (go_at_call 68; refine hU.mono ?_; rintro e w1 ⟨rfl, ⟨v1, hD, hB⟩, hc1⟩)
    | fail)
  obtain ⟨ao, cap, rfl, h1, h2⟩ := hB.form
  have k0 := hD.cell 0
  have k1 := hD.cell 1
  have z0 := hD.free 0
  have n2 : ¬ (r.length : Int) < (X : Int) := by omega
  have n3 : (X : Int) ≤ (cap : Int) := by omega
  have n5 : (X : Int) ≤ (r.length : Int) := by omega
  have hHB := Lib.hid hB
  have hT : ∀ b off, ao = some ⟨b, off, none⟩ → BB w1 D (.slice (some ⟨b, off, none⟩) X cap) (r.take X) := fun b off h => by
    subst h
    have : BB w1 D (.slice (some ⟨b, off, none⟩) X cap) (r.take X) := by simpa using BB.from_ hB 0 X (by omega)
    exact this
  rcases Nat.eq_zero_or_pos r.length with h0 | h0
  · have : r = [] := List.length_eq_zero_iff.1 h0
    subst this
    obtain rfl : X = 0 := by simpa using hr
    rw [show ([] : List UInt8).length = 0 from rfl] at *
    clear hB
    go_wp2_with fail
    go_ret
    exact ⟨_, _, _, rfl, BB.chg hHB.out (chg_set _ D 0 _) (Nat.le_of_lt hD.lt) (fun q hq => by omega), ⟨_, hD.set 0 _, BB.chg hHB.out (chg_set _ D 0 _) (Nat.le_of_lt hD.lt) (fun q hq => by omega)⟩, hc1.setCell ⟨D, 0, none⟩ rfl _⟩
  · obtain ⟨b, off, rfl, hb, hbB, hc⟩ := hB.at_ h0
    have hdr := hB.drop X hr
    have hT := hT b off rfl
    have hnil : cap = X → r.drop X = [] := fun h => List.drop_eq_nil_of_le (by omega)
    clear hc hB
    generalize hr2 : r.drop X = r2 at *
    have HR2 := Lib.hid hr2
    clear hr2
    generalize r.length = k at *
    by_cases hk : cap = X
    · obtain rfl := hnil hk
      subst hk
      obtain rfl : k = cap := by omega
      go_wp2_with fail
      go_ret
      exact ⟨_, _, _, rfl, BB.chg hT (chg_set _ D 0 _) (by omega) (fun q hq => by omega), ⟨_, hD.set 0 _, by rw [HR2.out]; first | exact BB.empty _ _ _ | (have := BB.empty (w1.setCell ⟨D, 0, none⟩ (.slice (some ⟨b, off, none⟩) 0 0)) D (some ⟨b, off, none⟩); simpa using this)⟩, hc1.setCell ⟨D, 0, none⟩ rfl _⟩
    · go_wp2_with fail
      go_ret
      exact ⟨_, _, _, rfl, BB.chg hT (chg_set _ D 0 _) (by omega) (fun q hq => by omega), ⟨_, hD.set 0 _, by rw [HR2.out]; exact BB.chg hdr (chg_set _ _ _ _) (by omega) (fun q hq => by omega)⟩, hc1.setCell ⟨D, 0, none⟩ rfl _⟩

set_option maxRecDepth 100000 in
set_option maxHeartbeats 2000000 in
theorem ubytes_short (D : Nat) (m : List UInt8) (w : World) (t : TypeId) (u : Value) (h : DSt D w m .nilIface) (hl : m.length ≤ 2147483647) (hok : uOk m = true) (X : Nat) (r : List UInt8) (hX : (uvar (m.take 10)).1 = X) (hr0 : m.drop (uvar (m.take 10)).2 = r) (hr : r.length < X) (hrl : r.length ≤ 2147483647) (hX2 : X < 2147483648) (hE : w.cell? ⟨EG, 0, none⟩ = some (.iface t u)) (hne : EG ≠ D) :
    Calls Tryz.prog 71 #[.pointer (some ⟨D, 0, none⟩)] w fun e w' => ∃ a k c, e = .returned (.slice a k c) ∧ Bytes w' (.slice a k c) [] ∧ DSt D w' r (.iface t u) ∧ Chg (fun q => q = D) w w' := by
  have hU := uv64_ok D m w h hl hok
  rw [hX, hr0] at hU
  clear hX hr0 h hl hok
  have n0 : (0 : Int) ≤ (X : Int) := by omega
  have n1 : (X : Int) ≤ 2147483647 := by omega
  go_enter Tryz.func71, Tryz.ntmps71
  go_upto_region 2 with (first
    | (go_at_call 68; refine hU.mono ?_; rintro e w1 ⟨rfl, ⟨v1, hD, hB⟩, hc1⟩)
    | fail)
  obtain ⟨ao, cap, rfl, h1, h2⟩ := hB.form
  have k0 := hD.cell 0
  have k1 := hD.cell 1
  have z1 := hD.free 1
  have hE1 := cell_chg hc1 hE hne
  have n2 : (r.length : Int) < (X : Int) := by omega
  have hHB := Lib.hid hB
  clear hB h1
  go_wp2_with fail
  go_ret
  have hcs := chg_set w1 D 1 (.iface t u)
  have hDS : DSt D (w1.setCell ⟨D, 1, none⟩ (.iface t u)) r (.iface t u) := ⟨_, hD.set 1 _, BB.chg hHB.out hcs (Nat.le_of_lt hD.lt) (fun q hq => by omega)⟩
  have hbn := bytes_new (w1.setCell ⟨D, 1, none⟩ (.iface t u))
  rw [size_set] at hbn
  exact ⟨_, _, _, rfl, hbn, hDS.chg ((Chg.refl (fun _ => False) _).alloc _) (fun _ _ h => h), (hc1.trans hcs).alloc _⟩
set_option maxRecDepth 100000 in
set_option maxHeartbeats 2000000 in
theorem ubytes_bad (D : Nat) (m : List UInt8) (w : World) (t : TypeId) (u E : Value) (h : DSt D w m E) (hE : E = .nilIface ∨ ∃ t u, E = .iface t u) (hl : m.length ≤ 2147483647) (hok : E ≠ .nilIface ∨ decU m = none) (hg : ErrV w) :
    Calls Tryz.prog 71 #[.pointer (some ⟨D, 0, none⟩)] w fun e w' => ∃ a k c, e = .returned (.slice a k c) ∧ Bytes w' (.slice a k c) [] ∧ (∃ m t u, m.length ≤ 2147483647 ∧ DSt D w' m (.iface t u)) ∧ Chg (fun q => q = D) w w' := by
  have hU := uv64_num D m E w h hE hl hg
  go_enter Tryz.func71, Tryz.ntmps71
  go_wp2_with fail
  refine hU.mono ?_
  rintro e w1 ⟨x, rfl, hd, hc1⟩
  rcases hd with ⟨r, h1, h2, _⟩ | ⟨_, rfl, m1, t1, u1, hm1, hds⟩
  · exfalso
    rcases hok with h | h
    · exact h h1
    · rw [h] at h2; cases h2
  obtain ⟨v1, hD, hB⟩ := hds
  have k1 := hD.cell 1
  go_wp2_with fail
  go_ret
  exact ⟨_, _, _, rfl, bytes_new _, ⟨m1, t1, u1, hm1, DSt.chg ⟨v1, hD, hB⟩ ((Chg.refl (fun _ => False) _).alloc _) (fun _ _ h => h)⟩, hc1.alloc _⟩
/-- bytes with their length, in one contract -/
theorem ubytes_any (D : Nat) (m : List UInt8) (E : Value) (w : World) (h : DSt D w m E) (hE : E = .nilIface ∨ ∃ t u, E = .iface t u) (hl : m.length ≤ 2147483647) (hg : ErrV w) (hne : EG ≠ D) (hX : E = .nilIface → ∀ X r, decU m = some (X, r) → X < 2147483648) :
    Calls Tryz.prog 71 #[.pointer (some ⟨D, 0, none⟩)] w fun e w' => ∃ a k c, e = .returned (.slice a k c) ∧ SRs D w' E (decS m) (.slice a k c) ∧ Chg (fun q => q = D) w w' := by
  by_cases hb : E ≠ .nilIface ∨ decU m = none
  · obtain ⟨t, u, hg'⟩ := hg
    refine (ubytes_bad D m w t u E h hE hl hb ⟨t, u, hg'⟩).mono ?_
    rintro e w' ⟨a, k, c, he, h1, h2, h3⟩
    refine ⟨a, k, c, he, .inr ⟨?_, h1, h2⟩, h3⟩
    rcases hb with hb | hb
    · exact .inl hb
    · exact .inr (by unfold decS; rw [hb])
  · have hE0 : E = .nilIface := Classical.byContradiction fun h => hb (.inl h)
    subst hE0
    have hd : decU m ≠ none := fun h => hb (.inr h)
    obtain ⟨⟨X, r⟩, hXr⟩ := Option.ne_none_iff_exists'.1 hd
    have hX2 := hX rfl X r hXr
    obtain ⟨h1, h2, h3⟩ := decU_some hXr
    have hrl : r.length ≤ 2147483647 := by rw [h3, List.length_drop]; omega
    by_cases hr : X ≤ r.length
    · refine (ubytes_ok D m w h hl h1 X r h2.symm h3.symm hr hrl).mono ?_
      rintro e w' ⟨a, k, c, he, g1, g2, g3⟩
      exact ⟨a, k, c, he, .inl ⟨_, _, rfl, by unfold decS; rw [hXr]; simp only; rw [if_pos hr], g1, g2⟩, g3⟩
    · obtain ⟨t, u, hg'⟩ := hg
      refine (ubytes_short D m w t u h hl h1 X r h2.symm h3.symm (by omega) hrl hX2 hg' hne).mono ?_
      rintro e w' ⟨a, k, c, he, g1, g2, g3⟩
      exact ⟨a, k, c, he, .inr ⟨.inr (by unfold decS; rw [hXr]; simp only; rw [if_neg hr]), g1, r, t, u, hrl, g2⟩, g3⟩
end Go.Proofs.YtkbkggamfkadnaaGreatDoor
