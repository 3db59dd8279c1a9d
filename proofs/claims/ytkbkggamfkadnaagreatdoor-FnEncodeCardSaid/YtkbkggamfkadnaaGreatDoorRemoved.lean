/-
  The postings [1, 2] without [2]: the steps of the removed postings.
-/
import Derived.Test.YtkbkggamfkadnaaGreatDoorExpand
namespace Go.Proofs.YtkbkggamfkadnaaGreatDoor
set_option linter.unusedSimpArgs false
set_option linter.unusedVariables false
open Go.RowKit

theorem lN (t : World) (g : Nat) : (method 296 142 (.pointer (some ⟨g, 0, none⟩)) "Next").run Tryz.prog t = .ok (141, .pointer (some ⟨g, 0, none⟩)) t := by kernel_rfl
theorem lA (t : World) (g : Nat) : (method 296 142 (.pointer (some ⟨g, 0, none⟩)) "At").run Tryz.prog t = .ok (138, .pointer (some ⟨g, 0, none⟩)) t := by kernel_rfl
theorem lE (t : World) (g : Nat) : (method 296 142 (.pointer (some ⟨g, 0, none⟩)) "Err").run Tryz.prog t = .ok (139, .pointer (some ⟨g, 0, none⟩)) t := by kernel_rfl
theorem rN (t : World) (g : Nat) : (method 296 152 (.pointer (some ⟨g, 0, none⟩)) "Next").run Tryz.prog t = .ok (171, .pointer (some ⟨g, 0, none⟩)) t := by kernel_rfl
theorem rA (t : World) (g : Nat) : (method 296 152 (.pointer (some ⟨g, 0, none⟩)) "At").run Tryz.prog t = .ok (169, .pointer (some ⟨g, 0, none⟩)) t := by kernel_rfl
theorem rE (t : World) (g : Nat) : (method 296 152 (.pointer (some ⟨g, 0, none⟩)) "Err").run Tryz.prog t = .ok (170, .pointer (some ⟨g, 0, none⟩)) t := by kernel_rfl

/-- removed postings at block R, over two lists -/
abbrev rpCells (F D : Nat) (cur : Int) (ini fok rok : Bool) : List Value := [.iface 142 (.pointer (some ⟨F, 0, none⟩)), .iface 142 (.pointer (some ⟨D, 0, none⟩)), .int .u64 cur, .bool ini, .bool fok, .bool rok]
structure RP (R F D B0 M1 M2 B : Nat) (w : World) (cur : Int) (ini fok rok : Bool) (a : List Int) (ca : Int) (b : List Int) (cb : Int) : Prop where
  blk : Blk w R (rpCells F D cur ini fok rok) 167
  o1 : B0 ≤ M1
  o2 : M1 ≤ M2
  o3 : M2 ≤ R
  o4 : R < B
  l : LP F B0 M1 w a ca
  d : LP D M1 M2 w b cb

theorem LP.lt {g B0 B : Nat} {w : World} {r : List Int} {c : Int} (h : LP g B0 B w r c) : B0 ≤ g ∧ g < B := by
  obtain ⟨_, _, _, _, _, _, _, h1, h2, _⟩ := h
  exact ⟨h1, h2⟩

set_option maxRecDepth 100000 in
set_option maxHeartbeats 4000000 in
theorem rpNext_first {R F D B0 M1 M2 B : Nat} {w : World} (h : RP R F D B0 M1 M2 B w 0 false false false [1, 2] 0 [2] 0) :
    Calls Tryz.prog 171 #[.pointer (some ⟨R, 0, none⟩)] w fun e w' => e = .returned (.bool true) ∧ RP R F D B0 M1 M2 B w' 1 true true true [] 2 [] 2 ∧ Chg (fun k => B0 ≤ k ∧ k < B) w w' := by
  obtain ⟨hb, o1, o2, o3, o4, hl, hd⟩ := h
  have pF := hl.lt
  have pD := hd.lt
  have hRB : B0 ≤ R ∧ R < B := ⟨by omega, by omega⟩
  have c0 := hb.cell 0
  have c1 := hb.cell 1
  have c3 := hb.cell 3
  have hmN := lN
  have hmA := lA
  go_enter Tryz.func171, Tryz.ntmps171
  have tok1 : True := trivial
  go_wp2_with (first
    | (go_at_call 141; have _t := tok1; refine (listNext_cons hl).mono ?_; rintro e w1 ⟨rfl, hl1, hc1⟩; clear tok1; have tok2 : True := trivial; have hb1 := hb.chg hc1 (by omega); have hd1 := hd.keep hc1 (fun k _ _ => by omega); have e1 := hb1.cell 1; have z14 := hb1.free 4; have e14 := hb1.cell 4; have hb2 := hb1.set 4 (.bool true); have hd2 := hd1.keep (chg_set w1 R 4 (.bool true)) (fun k _ _ => by omega); have hl2 := hl1.keep (chg_set w1 R 4 (.bool true)) (fun k _ _ => by omega))
    | (go_at_call 141; have _t := tok2; refine (listNext_cons hd2).mono ?_; rintro e w2 ⟨rfl, hd3, hc3⟩; clear tok2; have hb3 := hb2.chg hc3 (by omega); have hl3 := hl2.keep hc3 (fun k _ _ => by omega); have z25 := hb3.free 5; have z23 := hb3.free 3; have f0 := hb3.cell 0; have f1 := hb3.cell 1; have f3 := hb3.cell 3; have f4 := hb3.cell 4; have f5 := hb3.cell 5)
    | fail)
  have hbW := (hb3.set 5 (.bool true)).set 3 (.bool true)
  have hlW := (hl3.keep (chg_set w2 R 5 (.bool true)) (fun k _ _ => by omega)).keep (chg_set _ R 3 (.bool true)) (fun k _ _ => by omega)
  have hdW := (hd3.keep (chg_set w2 R 5 (.bool true)) (fun k _ _ => by omega)).keep (chg_set _ R 3 (.bool true)) (fun k _ _ => by omega)
  have hcW : Chg (fun k => B0 ≤ k ∧ k < B) w ((w2.setCell ⟨R, 5, none⟩ (.bool true)).setCell ⟨R, 3, none⟩ (.bool true)) :=
    ((((hc1.mono fun k hk => by omega).setCell ⟨R, 4, none⟩ hRB (.bool true)).trans (hc3.mono fun k hk => by omega)).setCell ⟨R, 5, none⟩ hRB (.bool true)).setCell ⟨R, 3, none⟩ hRB (.bool true)
  clear hb hl hd c0 c1 c3 hc1 hb1 hd1 e1 z14 e14 hb2 hd2 hl2 hl1 hd3 hc3 hb3 hl3 z25 z23 f0 f1 f3 f4 f5
  simp only [List.set_cons_succ, List.set_cons_zero] at hbW
  generalize (w2.setCell ⟨R, 5, none⟩ (.bool true)).setCell ⟨R, 3, none⟩ (.bool true) = W at *
  have f0 := hbW.cell 0
  have f1 := hbW.cell 1
  have f2 := hbW.cell 2
  have f4 := hbW.cell 4
  have f5 := hbW.cell 5
  have z2 := hbW.free 2
  refine wp_loop_rounds 1 ?_
  rw [rounds_succ]
  go_wp2_with fail
  have hS : W.drew.cell? ⟨R, 0, none⟩ = some (.iface 142 (.pointer (some ⟨F, 0, none⟩))) ∧ W.drew.cell? ⟨R, 1, none⟩ = some (.iface 142 (.pointer (some ⟨D, 0, none⟩))) := ⟨f0, f1⟩
  have hlD := hlW.keep (S := fun _ => False) ((Chg.refl _ W).drew) (fun _ _ _ h => h)
  have hdD := hdW.keep (S := fun _ => False) ((Chg.refl _ W).drew) (fun _ _ _ h => h)
  go_region_held3 (fun w' => w'.cell? ⟨R, 0, none⟩ = some (.iface 142 (.pointer (some ⟨F, 0, none⟩))) ∧ w'.cell? ⟨R, 1, none⟩ = some (.iface 142 (.pointer (some ⟨D, 0, none⟩)))) (first | (with_reducible assumption) | fail)
    (first
      | (go_at_call 138; ((with_reducible refine (listAt_any hlD).mono ?_); rintro e w' ⟨rfl, rfl⟩))
      | (go_at_call 138; ((with_reducible refine (listAt_any hdD).mono ?_); rintro e w' ⟨rfl, rfl⟩))
      | fail)
  have hlX := hlD.keep (chg_set W.drew R 2 (.int .u64 1)) (fun k _ _ => by omega)
  have hdX := hdD.keep (chg_set W.drew R 2 (.int .u64 1)) (fun k _ _ => by omega)
  have hbX := hbW.drew.set 2 (.int .u64 1)
  have hcX : Chg (fun k => B0 ≤ k ∧ k < B) w (W.drew.setCell ⟨R, 2, none⟩ (.int .u64 1)) := hcW.drew.setCell ⟨R, 2, none⟩ hRB (.int .u64 1)
  go_wp2_with (first
    | (go_at_call 141; refine (listNext_cons hlX).mono ?_; rintro e w4 ⟨rfl, hl4, hc4⟩; have hb4 := hbX.chg hc4 (by omega); have hd4 := hdX.keep hc4 (fun k _ _ => by omega); have g4 := hb4.cell 4; have y4 := hb4.free 4; have hb5 := hb4.set 4 (.bool true); have hl5 := hl4.keep (chg_set w4 R 4 (.bool true)) (fun k _ _ => by omega); have hd5 := hd4.keep (chg_set w4 R 4 (.bool true)) (fun k _ _ => by omega); have hc5 := (hcX.trans (hc4.mono fun k hk => by omega)).setCell ⟨R, 4, none⟩ hRB (.bool true))
    | fail)
  go_ret
  exact ⟨rfl, ⟨hb5, o1, o2, o3, o4, hl5, hd5⟩, hc5⟩

set_option maxRecDepth 100000 in
set_option maxHeartbeats 4000000 in
theorem rpNext_second {R F D B0 M1 M2 B : Nat} {w : World} (h : RP R F D B0 M1 M2 B w 1 true true true [] 2 [] 2) :
    Calls Tryz.prog 171 #[.pointer (some ⟨R, 0, none⟩)] w fun e w' => e = .returned (.bool false) ∧ RP R F D B0 M1 M2 B w' 1 true false true [] 0 [] 2 ∧ Chg (fun k => B0 ≤ k ∧ k < B) w w' := by
  obtain ⟨hb, o1, o2, o3, o4, hl, hd⟩ := h
  have pF := hl.lt
  have pD := hd.lt
  have hRB : B0 ≤ R ∧ R < B := ⟨by omega, by omega⟩
  have f0 := hb.cell 0
  have f1 := hb.cell 1
  have f3 := hb.cell 3
  have f4 := hb.cell 4
  have f5 := hb.cell 5
  have hmN := lN
  have hmA := lA
  go_enter Tryz.func171, Tryz.ntmps171
  go_wp2_with fail
  refine wp_loop_rounds 2 ?_
  rw [rounds_succ]
  go_wp2_with fail
  have hS : w.drew.cell? ⟨R, 0, none⟩ = some (.iface 142 (.pointer (some ⟨F, 0, none⟩))) ∧ w.drew.cell? ⟨R, 1, none⟩ = some (.iface 142 (.pointer (some ⟨D, 0, none⟩))) := ⟨f0, f1⟩
  have hlD := hl.keep (S := fun _ => False) ((Chg.refl _ w).drew) (fun _ _ _ h => h)
  have hdD := hd.keep (S := fun _ => False) ((Chg.refl _ w).drew) (fun _ _ _ h => h)
  go_region_held3 (fun w' => w'.cell? ⟨R, 0, none⟩ = some (.iface 142 (.pointer (some ⟨F, 0, none⟩))) ∧ w'.cell? ⟨R, 1, none⟩ = some (.iface 142 (.pointer (some ⟨D, 0, none⟩)))) (first | (with_reducible assumption) | fail)
    (first
      | (go_at_call 138; ((with_reducible refine (listAt_any hlD).mono ?_); rintro e w' ⟨rfl, rfl⟩))
      | (go_at_call 138; ((with_reducible refine (listAt_any hdD).mono ?_); rintro e w' ⟨rfl, rfl⟩))
      | fail)
  have hbD := hb.drew
  go_wp2_with (first
    | (go_at_call 141; refine (listNext_nil hlD).mono ?_; rintro e w4 ⟨rfl, hl4, hc4⟩; have hb4 := hbD.chg hc4 (by omega); have hd4 := hdD.keep hc4 (fun k _ _ => by omega); have g4 := hb4.cell 4; have y4 := hb4.free 4; have hb5 := hb4.set 4 (.bool false); have hl5 := hl4.keep (chg_set w4 R 4 (.bool false)) (fun k _ _ => by omega); have hd5 := hd4.keep (chg_set w4 R 4 (.bool false)) (fun k _ _ => by omega); have hc5 := ((Chg.refl (fun k => B0 ≤ k ∧ k < B) w).drew.trans (hc4.mono fun k hk => by omega)).setCell ⟨R, 4, none⟩ hRB (.bool false))
    | fail)
  rw [rounds_succ]
  go_wp2_with fail
  go_ret
  exact ⟨rfl, ⟨hb5, o1, o2, o3, o4, hl5, hd5⟩, hc5⟩

set_option maxRecDepth 100000 in
set_option maxHeartbeats 4000000 in
theorem rpNext_third {R F D B0 M1 M2 B : Nat} {w : World} (h : RP R F D B0 M1 M2 B w 1 true false true [] 0 [] 2) :
    Calls Tryz.prog 171 #[.pointer (some ⟨R, 0, none⟩)] w fun e w' => e = .returned (.bool false) ∧ w = w' := by
  have f3 := h.blk.cell 3
  have f4 := h.blk.cell 4
  go_enter Tryz.func171, Tryz.ntmps171
  go_wp2_with fail
  refine wp_loop_rounds 1 ?_
  rw [rounds_succ]
  go_wp2_with fail
  go_ret
  exact ⟨rfl, rfl⟩

theorem rpAt_any {R F D B0 M1 M2 B : Nat} {w : World} {cur : Int} {i f r : Bool} {a b : List Int} {ca cb : Int} (h : RP R F D B0 M1 M2 B w cur i f r a ca b cb) :
    Calls Tryz.prog 169 #[.pointer (some ⟨R, 0, none⟩)] w fun e w' => e = .returned (.int .u64 cur) ∧ w = w' := by
  have c2 := h.blk.cell 2
  go_enter Tryz.func169, Tryz.ntmps169
  go_wp2_with fail
  go_ret
  exact ⟨rfl, rfl⟩
set_option maxRecDepth 100000 in
theorem rpErr_any {R F D B0 M1 M2 B : Nat} {w : World} {cur : Int} {i f r : Bool} {a b : List Int} {ca cb : Int} (h : RP R F D B0 M1 M2 B w cur i f r a ca b cb) :
    Calls Tryz.prog 170 #[.pointer (some ⟨R, 0, none⟩)] w fun e w' => e = .returned .nilIface ∧ w = w' := by
  have c0 := h.blk.cell 0
  have c1 := h.blk.cell 1
  have hmE := lE
  go_enter Tryz.func170, Tryz.ntmps170
  go_wp2_with (first | (go_at_call 139; refine (listErr_any _ _).mono ?_; rintro e w' ⟨rfl, rfl⟩) | fail)
  go_ret
  exact ⟨rfl, rfl⟩

theorem RP.keep {R F D B0 M1 M2 B : Nat} {w w' : World} {cur : Int} {i f r : Bool} {a b : List Int} {ca cb : Int} (h : RP R F D B0 M1 M2 B w cur i f r a ca b cb) (hc : Chg (fun k => B ≤ k) w w') : RP R F D B0 M1 M2 B w' cur i f r a ca b cb := by
  obtain ⟨hb, o1, o2, o3, o4, hl, hd⟩ := h
  exact ⟨hb.chg hc (by omega), o1, o2, o3, o4, hl.keep hc (fun k _ _ => by omega), hd.keep hc (fun k _ _ => by omega)⟩

/-- its states: nothing told, 1 told, at the end -/
def rpI (R F D B0 M1 M2 B : Nat) (c : Option Int) (r : List Int) (w : World) : Prop :=
  (c = none ∧ r = [1] ∧ RP R F D B0 M1 M2 B w 0 false false false [1, 2] 0 [2] 0) ∨ (c = some 1 ∧ r = [] ∧ RP R F D B0 M1 M2 B w 1 true true true [] 2 [] 2) ∨ (c = none ∧ r = [] ∧ RP R F D B0 M1 M2 B w 1 true false true [] 0 [] 2)
theorem rp_iter (R F D B0 M1 M2 B : Nat) : PIter 152 (.pointer (some ⟨R, 0, none⟩)) 171 169 170 B0 B (rpI R F D B0 M1 M2 B) where
  mN t := rN t R
  mA t := rA t R
  mE t := rE t R
  cN t := by kernel_rfl
  cA t := by kernel_rfl
  cE t := by kernel_rfl
  nextNil c w h := by
    rcases h with ⟨rfl, h, _⟩ | ⟨rfl, _, h⟩ | ⟨rfl, _, h⟩
    · cases h
    · exact (rpNext_second h).mono fun e w' ⟨he, hr, hc⟩ => ⟨he, .inr (.inr ⟨rfl, rfl, hr⟩), hc⟩
    · exact (rpNext_third h).mono fun e w' ⟨he, hw⟩ => ⟨he, hw ▸ .inr (.inr ⟨rfl, rfl, h⟩), hw ▸ Chg.refl _ _⟩
  nextCons c x r w h := by
    rcases h with ⟨rfl, h, hr⟩ | ⟨_, h, _⟩ | ⟨_, h, _⟩
    · injection h with h1 h2
      subst h1 h2
      exact (rpNext_first hr).mono fun e w' ⟨he, hr, hc⟩ => ⟨he, .inr (.inl ⟨rfl, rfl, hr⟩), hc⟩
    · cases h
    · cases h
  at_ x r w h := by
    rcases h with ⟨h, _⟩ | ⟨h, hn, hr⟩ | ⟨h, _⟩
    · cases h
    · injection h with h
      subst h
      exact (rpAt_any hr).mono fun e w' ⟨he, hw⟩ => ⟨he, hw ▸ .inr (.inl ⟨rfl, hn, hr⟩), hw ▸ Chg.refl _ _⟩
    · cases h
  err w h := by
    rcases h with ⟨_, h, _⟩ | ⟨h, _⟩ | ⟨_, _, hr⟩
    · cases h
    · cases h
    · exact (rpErr_any hr).mono fun e w' ⟨he, hw⟩ => ⟨he, hw ▸ Chg.refl _ _⟩
  keep c r w w' h hc := by
    rcases h with ⟨h1, h2, h⟩ | ⟨h1, h2, h⟩ | ⟨h1, h2, h⟩
    · exact .inl ⟨h1, h2, h.keep hc⟩
    · exact .inr (.inl ⟨h1, h2, h.keep hc⟩)
    · exact .inr (.inr ⟨h1, h2, h.keep hc⟩)
end Go.Proofs.YtkbkggamfkadnaaGreatDoor
