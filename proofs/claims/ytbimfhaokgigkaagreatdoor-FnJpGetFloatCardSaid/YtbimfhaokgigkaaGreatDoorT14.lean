/- Walks of functions of FnJpGetFloat (B12); conditions stand ahead of each theorem. -/
import Derived.Test.YtbimfhaokgigkaaGreatDoorT13
import Derived.Deep.LoopGhost
set_option linter.unusedVariables false
set_option linter.unusedSimpArgs false
set_option maxRecDepth 1000000
namespace Go.Proofs.YtbimfhaokgigkaaGreatDoor
open Go.RowKit Go.Proofs.YtbimfhaokgigkaaGreatDoorW.PrintWords Go.Proofs.YtbimfhaokgigkaaGreatDoorW.PrintLast
noncomputable def fbB1 : Code := loopOf Tryz.f98 0
noncomputable def fbB2 : Code := loopOf Tryz.f98 1
theorem stepN_big {n : Nat} (h : 9 ≤ n) : FP.stepN n = 27 := by
 unfold FP.stepN
 rw [List.getD_eq_getElem?_getD, List.getElem?_eq_none (by simp; omega)]; rfl
section
variable {w : World} {g : Nat} {d : Nat → Nat} {nd : Nat} {dp : Int} {neg tr : Bool}
theorem f1_big (h : Dec w g d nd dp neg tr) (p : Nat) (hdp : dp = (p : Int)) (hp1 : 9 ≤ p) (hp2 : p ≤ 5000) (x : Int) (hx0 : -5000 ≤ x) (hx1 : x ≤ 5000) {B O C : Nat} (hv : w.cell? ⟨20, 0, none⟩ = some (.slice (some ⟨B, O, none⟩) 9 C)) (hp : ∀ i, i < 9 → w.cell? ⟨B, O + i, none⟩ = some (.int .i64 (FP.stepN i : Int)))
  {R : Ending → World → Prop} (hC : ∀ m, Calls Tryz.prog 122 #[.pointer (some ⟨g, 0, none⟩), .int .i64 (-((FP.stepN p : Nat) : Int))] (w.drewN m) fun e w' => e = .returned (.tuple #[]) ∧ R e w')
  (u : Nat → Value) (I : Act → World → Prop) (Q : Exit → Act → World → Prop)
  (hI : ∀ a w', R (.returned (.tuple #[])) w' → a = ⟨ffr (.pointer (some ⟨g, 0, none⟩)) (.pointer (some ⟨17, 0, none⟩)) (.int .u64 0) (.bool false) (.int .i64 (x + (FP.stepN p : Int))) (.int .u64 0) (fun n => a.tmps.getD n undef), []⟩ → I a w') :
  Code.wp Tryz.prog fbB1 (Exit.then I Q) ⟨ffr (.pointer (some ⟨g, 0, none⟩)) (.pointer (some ⟨17, 0, none⟩)) (.int .u64 0) (.bool false) (.int .i64 x) (.int .u64 0) u, []⟩ w := by
 have cdp := h.cdp
 obtain ⟨st, hst⟩ : ∃ st, st = FP.stepN p := ⟨_, rfl⟩
 have hs := FP.stepN_le p
 rw [← hst] at hs hC hI
 have hs1 : (st : Int) ≤ 27 := by omega
 subst hdp
 have t0 : decide (0 < (p : Int)) = true := dT
 have t0n : decide (0 < p) = true := dT
 have t9n : decide (9 ≤ p) = true := dT
 have t9 : decide (9 ≤ (p : Int)) = true := dT
 have e27 : st = 27 := by rw [hst]; exact stepN_big (by omega)
 clear hst
 subst e27
 clear hp
 have HC := az hC
 have HI := az hI
 clear h hC hI
 unfold ffr
 conv => arg 2; whnf
 go_wp2_with fail
 go_quiet (fail)
 go_wp2_with fail
 refine (HC.out _).mono ?_
 rintro e w1 ⟨rfl, hr⟩
 have HR := az hr
 clear hr
 go_wp2_with fail
 exact HI.out _ w1 HR.out rfl
theorem f1_small (h : Dec w g d nd dp neg tr) (p : Nat) (hdp : dp = (p : Int)) (hp0 : 1 ≤ p) (hp1 : p < 9) (x : Int) (hx0 : -5000 ≤ x) (hx1 : x ≤ 5000) {B O C : Nat} (hv : w.cell? ⟨20, 0, none⟩ = some (.slice (some ⟨B, O, none⟩) 9 C)) (hp : ∀ i, i < 9 → w.cell? ⟨B, O + i, none⟩ = some (.int .i64 (FP.stepN i : Int)))
  {R : Ending → World → Prop} (hC : ∀ m, Calls Tryz.prog 122 #[.pointer (some ⟨g, 0, none⟩), .int .i64 (-((FP.stepN p : Nat) : Int))] (w.drewN m) fun e w' => e = .returned (.tuple #[]) ∧ R e w')
  (u : Nat → Value) (I : Act → World → Prop) (Q : Exit → Act → World → Prop)
  (hI : ∀ a w', R (.returned (.tuple #[])) w' → a = ⟨ffr (.pointer (some ⟨g, 0, none⟩)) (.pointer (some ⟨17, 0, none⟩)) (.int .u64 0) (.bool false) (.int .i64 (x + (FP.stepN p : Int))) (.int .u64 0) (fun n => a.tmps.getD n undef), []⟩ → I a w') :
  Code.wp Tryz.prog fbB1 (Exit.then I Q) ⟨ffr (.pointer (some ⟨g, 0, none⟩)) (.pointer (some ⟨17, 0, none⟩)) (.int .u64 0) (.bool false) (.int .i64 x) (.int .u64 0) u, []⟩ w := by
 have cdp := h.cdp
 obtain ⟨st, hst⟩ : ∃ st, st = FP.stepN p := ⟨_, rfl⟩
 have hs := FP.stepN_le p
 rw [← hst] at hs hC hI
 have hs1 : (st : Int) ≤ 27 := by omega
 subst hdp
 have t0 : decide (0 < (p : Int)) = true := dT
 have t0n : decide (0 < p) = true := dT
 have t9n : decide (9 ≤ p) = false := dF
 have hp9 : (p : Int) < 9 := by omega
 have t9 : decide (9 ≤ (p : Int)) = false := dF
 have cp := hp p (by omega)
 rw [← hst] at cp
 clear hp hst
 have HC := az hC
 have HI := az hI
 clear h hC hI
 unfold ffr
 conv => arg 2; whnf
 go_wp2_with fail
 go_quiet (fail)
 go_wp2_with fail
 go_quiet (fail)
 go_wp2_with fail
 refine (HC.out _).mono ?_
 rintro e w1 ⟨rfl, hr⟩
 have HR := az hr
 clear hr
 go_wp2_with fail
 exact HI.out _ w1 HR.out rfl
theorem f2_big (h : Dec w g d nd dp neg tr) (p : Nat) (hdp : dp = -(p : Int)) (hp1 : 9 ≤ p) (hp2 : p ≤ 5000) (x : Int) (hx0 : -5000 ≤ x) (hx1 : x ≤ 5000) {B O C : Nat} (hv : w.cell? ⟨20, 0, none⟩ = some (.slice (some ⟨B, O, none⟩) 9 C)) (hp : ∀ i, i < 9 → w.cell? ⟨B, O + i, none⟩ = some (.int .i64 (FP.stepN i : Int)))
  {R : Ending → World → Prop} (hC : ∀ m, Calls Tryz.prog 122 #[.pointer (some ⟨g, 0, none⟩), .int .i64 (((FP.stepN p : Nat) : Int))] (w.drewN m) fun e w' => e = .returned (.tuple #[]) ∧ R e w')
  (u : Nat → Value) (I : Act → World → Prop) (Q : Exit → Act → World → Prop)
  (hI : ∀ a w', R (.returned (.tuple #[])) w' → a = ⟨ffr (.pointer (some ⟨g, 0, none⟩)) (.pointer (some ⟨17, 0, none⟩)) (.int .u64 0) (.bool false) (.int .i64 (x - (FP.stepN p : Int))) (.int .u64 0) (fun n => a.tmps.getD n undef), []⟩ → I a w') :
  Code.wp Tryz.prog fbB2 (Exit.then I Q) ⟨ffr (.pointer (some ⟨g, 0, none⟩)) (.pointer (some ⟨17, 0, none⟩)) (.int .u64 0) (.bool false) (.int .i64 x) (.int .u64 0) u, []⟩ w := by
 have cdp := h.cdp
 obtain ⟨st, hst⟩ : ∃ st, st = FP.stepN p := ⟨_, rfl⟩
 have hs := FP.stepN_le p
 rw [← hst] at hs hC hI
 have hs1 : (st : Int) ≤ 27 := by omega
 subst hdp
 have t0 : decide (-(p : Int) < 0) = true := dT
 have t0b : decide (0 < (p : Int)) = true := dT
 have t0n : decide (0 < p) = true := dT
 have t9n : decide (9 ≤ p) = true := dT
 have t9 : decide (9 ≤ (p : Int)) = true := dT
 have e27 : st = 27 := by rw [hst]; exact stepN_big (by omega)
 clear hst
 subst e27
 clear hp
 have HC := az hC
 have HI := az hI
 clear h hC hI
 unfold ffr
 conv => arg 2; whnf
 go_wp2_with fail
 go_quiet (fail)
 go_wp2_with fail
 refine (HC.out _).mono ?_
 rintro e w1 ⟨rfl, hr⟩
 have HR := az hr
 clear hr
 go_wp2_with fail
 exact HI.out _ w1 HR.out rfl
theorem f2_small (h : Dec w g d nd dp neg tr) (p : Nat) (hdp : dp = -(p : Int)) (hp0 : 1 ≤ p) (hp1 : p < 9) (x : Int) (hx0 : -5000 ≤ x) (hx1 : x ≤ 5000) {B O C : Nat} (hv : w.cell? ⟨20, 0, none⟩ = some (.slice (some ⟨B, O, none⟩) 9 C)) (hp : ∀ i, i < 9 → w.cell? ⟨B, O + i, none⟩ = some (.int .i64 (FP.stepN i : Int)))
  {R : Ending → World → Prop} (hC : ∀ m, Calls Tryz.prog 122 #[.pointer (some ⟨g, 0, none⟩), .int .i64 (((FP.stepN p : Nat) : Int))] (w.drewN m) fun e w' => e = .returned (.tuple #[]) ∧ R e w')
  (u : Nat → Value) (I : Act → World → Prop) (Q : Exit → Act → World → Prop)
  (hI : ∀ a w', R (.returned (.tuple #[])) w' → a = ⟨ffr (.pointer (some ⟨g, 0, none⟩)) (.pointer (some ⟨17, 0, none⟩)) (.int .u64 0) (.bool false) (.int .i64 (x - (FP.stepN p : Int))) (.int .u64 0) (fun n => a.tmps.getD n undef), []⟩ → I a w') :
  Code.wp Tryz.prog fbB2 (Exit.then I Q) ⟨ffr (.pointer (some ⟨g, 0, none⟩)) (.pointer (some ⟨17, 0, none⟩)) (.int .u64 0) (.bool false) (.int .i64 x) (.int .u64 0) u, []⟩ w := by
 have cdp := h.cdp
 obtain ⟨st, hst⟩ : ∃ st, st = FP.stepN p := ⟨_, rfl⟩
 have hs := FP.stepN_le p
 rw [← hst] at hs hC hI
 have hs1 : (st : Int) ≤ 27 := by omega
 subst hdp
 have t0 : decide (-(p : Int) < 0) = true := dT
 have t0b : decide (0 < (p : Int)) = true := dT
 have t0n : decide (0 < p) = true := dT
 have t9n : decide (9 ≤ p) = false := dF
 have hp9 : (p : Int) < 9 := by omega
 have t9 : decide (9 ≤ (p : Int)) = false := dF
 have cp := hp p (by omega)
 rw [← hst] at cp
 clear hp hst
 have HC := az hC
 have HI := az hI
 clear h hC hI
 unfold ffr
 conv => arg 2; whnf
 go_wp2_with fail
 go_quiet (fail)
 go_wp2_with fail
 go_quiet (fail)
 go_wp2_with fail
 refine (HC.out _).mono ?_
 rintro e w1 ⟨rfl, hr⟩
 have HR := az hr
 clear hr
 go_wp2_with fail
 exact HI.out _ w1 HR.out rfl
theorem f2_zero (h : Dec w g d nd dp neg tr) (hdp : dp = 0) (hd0 : d 0 < 53) (x : Int) (hx0 : -5000 ≤ x) (hx1 : x ≤ 5000) {B O C : Nat} (hv : w.cell? ⟨20, 0, none⟩ = some (.slice (some ⟨B, O, none⟩) 9 C)) (hp : ∀ i, i < 9 → w.cell? ⟨B, O + i, none⟩ = some (.int .i64 (FP.stepN i : Int)))
  {R : Ending → World → Prop} (hC : ∀ m, Calls Tryz.prog 122 #[.pointer (some ⟨g, 0, none⟩), .int .i64 (((FP.stepN 0 : Nat) : Int))] (w.drewN m) fun e w' => e = .returned (.tuple #[]) ∧ R e w')
  (u : Nat → Value) (I : Act → World → Prop) (Q : Exit → Act → World → Prop)
  (hI : ∀ a w', R (.returned (.tuple #[])) w' → a = ⟨ffr (.pointer (some ⟨g, 0, none⟩)) (.pointer (some ⟨17, 0, none⟩)) (.int .u64 0) (.bool false) (.int .i64 (x - (FP.stepN 0 : Int))) (.int .u64 0) (fun n => a.tmps.getD n undef), []⟩ → I a w') :
  Code.wp Tryz.prog fbB2 (Exit.then I Q) ⟨ffr (.pointer (some ⟨g, 0, none⟩)) (.pointer (some ⟨17, 0, none⟩)) (.int .u64 0) (.bool false) (.int .i64 x) (.int .u64 0) u, []⟩ w := by
 have cdp := h.cdp
 obtain ⟨st, hst⟩ : ∃ st, st = FP.stepN 0 := ⟨_, rfl⟩
 have hs := FP.stepN_le 0
 rw [← hst] at hs hC hI
 have hs1 : (st : Int) ≤ 27 := by omega
 subst hdp
 have c0 := h.cell (i := 0) (by omega)
 have t53 : decide ((d 0 : Int) < 53) = true := dT
 have t53n : decide (d 0 < 53) = true := dT
 have cp := hp 0 (by omega)
 rw [← hst, Nat.add_zero] at cp
 clear hp hst
 have HC := az hC
 have HI := az hI
 clear h hC hI
 unfold ffr
 conv => arg 2; whnf
 go_wp2_with fail
 go_quiet (fail)
 go_wp2_with fail
 go_quiet (fail)
 go_wp2_with fail
 refine (HC.out _).mono ?_
 rintro e w1 ⟨rfl, hr⟩
 have HR := az hr
 clear hr
 go_wp2_with fail
 exact HI.out _ w1 HR.out rfl
theorem f1_out (h : Dec w g d nd dp neg tr) (hdp : dp ≤ 0) (x : Int) (u : Nat → Value) (I : Act → World → Prop) (Q : Exit → Act → World → Prop)
  (hQ : ∀ a, a = ⟨ffr (.pointer (some ⟨g, 0, none⟩)) (.pointer (some ⟨17, 0, none⟩)) (.int .u64 0) (.bool false) (.int .i64 x) (.int .u64 0) (fun n => a.tmps.getD n undef), []⟩ → Q (.exit 0) a w) :
  Code.wp Tryz.prog fbB1 (Exit.then I Q) ⟨ffr (.pointer (some ⟨g, 0, none⟩)) (.pointer (some ⟨17, 0, none⟩)) (.int .u64 0) (.bool false) (.int .i64 x) (.int .u64 0) u, []⟩ w := by
 have cdp := h.cdp
 have t0 : decide (0 < dp) = false := dF
 have HQ := az hQ
 clear h hQ hdp
 unfold ffr
 conv => arg 2; whnf
 go_wp2_with fail
 exact HQ.out _ rfl
theorem f2_out (h : Dec w g d nd dp neg tr) (hdp : dp = 0) (hd0 : ¬ d 0 < 53) (x : Int) (u : Nat → Value) (I : Act → World → Prop) (Q : Exit → Act → World → Prop)
  (hQ : ∀ a, a = ⟨ffr (.pointer (some ⟨g, 0, none⟩)) (.pointer (some ⟨17, 0, none⟩)) (.int .u64 0) (.bool false) (.int .i64 x) (.int .u64 0) (fun n => a.tmps.getD n undef), []⟩ → Q (.exit 2) a w) :
  Code.wp Tryz.prog fbB2 (Exit.then I Q) ⟨ffr (.pointer (some ⟨g, 0, none⟩)) (.pointer (some ⟨17, 0, none⟩)) (.int .u64 0) (.bool false) (.int .i64 x) (.int .u64 0) u, []⟩ w := by
 subst hdp
 have cdp := h.cdp
 have c0 := h.cell (i := 0) (by omega)
 have t53 : decide ((d 0 : Int) < 53) = false := dF
 have t53n : decide (d 0 < 53) = false := dF
 have HQ := az hQ
 clear h hQ hd0
 unfold ffr
 conv => arg 2; whnf
 go_wp2_with fail
 exact HQ.out _ rfl
end
section
variable {g n : Nat} {X : Rat} {E : Int} {neg : Bool}
theorem f1_loop {w0 : World} (hE : FEnv n w0) (hg : n ≤ g) (hE1 : E ≤ 1200) {s0 : List Nat × Int × Bool} (h : DecV w0 g X E 0 s0 neg) {Q : Exit → Act → World → Prop}
  (hQ : ∀ a w' s t, DecV w' g X E t s neg → s.2.1 ≤ 0 → t ≤ 0 → (0 ≤ t ∨ -1000 ≤ E + t) → Only g w0 w' → a = ⟨ffr (.pointer (some ⟨g, 0, none⟩)) (.pointer (some ⟨17, 0, none⟩)) (.int .u64 0) (.bool false) (.int .i64 (-t)) (.int .u64 0) (fun n => a.tmps.getD n undef), []⟩ → Q (.exit 0) a w')
  {c : Code} {a : Act} (hc : fbB1 = c) (ha : a = ⟨ffr (.pointer (some ⟨g, 0, none⟩)) (.pointer (some ⟨17, 0, none⟩)) (.int .u64 0) (.bool false) (.int .i64 0) (.int .u64 0) (fun n => a.tmps.getD n undef), []⟩) :
  Code.wp Tryz.prog (.loop c) Q a w0 := by
 subst hc
 have hE0 := h.val.El
 refine wp_loop_ghost (fun f a w => ∃ (t : Int) (s : List Nat × Int × Bool) (u : Nat → Value), a = ⟨ffr (.pointer (some ⟨g, 0, none⟩)) (.pointer (some ⟨17, 0, none⟩)) (.int .u64 0) (.bool false) (.int .i64 (-t)) (.int .u64 0) u, []⟩ ∧ DecV w g X E t s neg ∧ Only g w0 w ∧ t ≤ 0 ∧ (0 ≤ t ∨ -1000 ≤ E + t) ∧ (f : Int) = max (E + t + 30) 0) (max (E + 30) 0).toNat
  ⟨0, s0, _, ha, h, Only.refl _ _, by omega, by omega, by omega⟩ ?_
 rintro f a w ⟨t, s, u, rfl, hD, hO, ht, hr, hf⟩
 obtain ⟨ds, dp, tr⟩ := s
 have hD0 := hD
 obtain ⟨⟨d, m1, m2⟩, v⟩ := hD
 by_cases hdp : 0 < dp
 ·have hpos := v.pos hdp
  have hs := FP.stepN_le dp.toNat
  have hEw := hE.only hO hg
  obtain ⟨B, O, C, hB, hv, hp⟩ := hEw.pow
  have hbd := v.bounds (by omega) (by omega)
  simp only at hbd
  have hC : ∀ m, Calls Tryz.prog 122 #[.pointer (some ⟨g, 0, none⟩), .int .i64 (-((FP.stepN dp.toNat : Nat) : Int))] (w.drewN m) fun e w' => e = .returned (.tuple #[]) ∧ (DecV w' g X E (t - (FP.stepN dp.toNat : Nat)) (FP.shrD (FP.stepN dp.toNat) (ds, dp, tr)) neg ∧ Only g w w') := by
   intro m
   refine (shift_right (hD0.drewN m) (by omega) (by omega) (FP.stepN dp.toNat) (by omega) (by omega) (by unfold FP.Range; omega)).mono ?_
   rintro e w' ⟨h1, h2, h3⟩
   exact ⟨h1, h2, ((Only.refl g w).drewN m).trans h3⟩
  have step : ∀ (a : Act) (w' : World), (DecV w' g X E (t - (FP.stepN dp.toNat : Nat)) (FP.shrD (FP.stepN dp.toNat) (ds, dp, tr)) neg ∧ Only g w w') → a = ⟨ffr (.pointer (some ⟨g, 0, none⟩)) (.pointer (some ⟨17, 0, none⟩)) (.int .u64 0) (.bool false) (.int .i64 (-t + (FP.stepN dp.toNat : Int))) (.int .u64 0) (fun n => a.tmps.getD n undef), []⟩ →
    ∃ f', f' < f ∧ ∃ (t : Int) (s : List Nat × Int × Bool) (u : Nat → Value), a = ⟨ffr (.pointer (some ⟨g, 0, none⟩)) (.pointer (some ⟨17, 0, none⟩)) (.int .u64 0) (.bool false) (.int .i64 (-t)) (.int .u64 0) u, []⟩ ∧ DecV w' g X E t s neg ∧ Only g w0 w' ∧ t ≤ 0 ∧ (0 ≤ t ∨ -1000 ≤ E + t) ∧ (f' : Int) = max (E + t + 30) 0 := by
   intro a w' h ha
   refine ⟨(max (E + (t - (FP.stepN dp.toNat : Nat)) + 30) 0).toNat, by omega, _, _, (fun n => a.tmps.getD n undef), ?_, h.1, hO.trans h.2, by omega, by omega, by omega⟩
   rw [show -(t - ((FP.stepN dp.toNat : Nat) : Int)) = -t + (FP.stepN dp.toNat : Int) by omega]
   exact ha
  by_cases h9 : 9 ≤ dp.toNat
  ·exact f1_big m1 dp.toNat (by simp only; omega) h9 (by omega) (-t) (by omega) (by omega) hv hp (R := fun _ w' => DecV w' g X E (t - (FP.stepN dp.toNat : Nat)) (FP.shrD (FP.stepN dp.toNat) (ds, dp, tr)) neg ∧ Only g w w') hC u _ _ step
  ·exact f1_small m1 dp.toNat (by simp only; omega) (by omega) (by omega) (-t) (by omega) (by omega) hv hp (R := fun _ w' => DecV w' g X E (t - (FP.stepN dp.toNat : Nat)) (FP.shrD (FP.stepN dp.toNat) (ds, dp, tr)) neg ∧ Only g w w') hC u _ _ step
 ·exact f1_out m1 (by simp only; omega) (-t) u _ _ fun a ha => hQ a w (ds, dp, tr) t hD0 (by simp only; omega) ht hr hO ha
theorem f2_loop {w0 : World} (hE : FEnv n w0) (hg : n ≤ g) (hE1 : E ≤ 1200) {s0 : List Nat × Int × Bool} {t0 : Int} (h : DecV w0 g X E t0 s0 neg) (hs0 : s0.2.1 ≤ 0) (ht0 : 0 ≤ t0 ∨ -1000 ≤ E + t0) (ht1 : t0 ≤ 0) {Q : Exit → Act → World → Prop}
  (hQ : ∀ a w' s, DecV w' g X E (-(E + 1)) s neg → Only g w0 w' → a = ⟨ffr (.pointer (some ⟨g, 0, none⟩)) (.pointer (some ⟨17, 0, none⟩)) (.int .u64 0) (.bool false) (.int .i64 (E + 1)) (.int .u64 0) (fun n => a.tmps.getD n undef), []⟩ → Q (.exit 2) a w')
  {c : Code} {a : Act} (hc : fbB2 = c) (ha : a = ⟨ffr (.pointer (some ⟨g, 0, none⟩)) (.pointer (some ⟨17, 0, none⟩)) (.int .u64 0) (.bool false) (.int .i64 (-t0)) (.int .u64 0) (fun n => a.tmps.getD n undef), []⟩) :
  Code.wp Tryz.prog (.loop c) Q a w0 := by
 subst hc
 have hE0 := h.val.El
 refine wp_loop_ghost (fun f a w => ∃ (t : Int) (s : List Nat × Int × Bool) (u : Nat → Value), a = ⟨ffr (.pointer (some ⟨g, 0, none⟩)) (.pointer (some ⟨17, 0, none⟩)) (.int .u64 0) (.bool false) (.int .i64 (-t)) (.int .u64 0) u, []⟩ ∧ DecV w g X E t s neg ∧ Only g w0 w ∧ s.2.1 ≤ 0 ∧ (0 ≤ t ∨ -1000 ≤ E + t) ∧ (t ≤ 0 ∨ E + t ≤ 0) ∧ (f : Int) = max (2000 - t) 0) (max (2000 - t0) 0).toNat
  ⟨t0, s0, _, ha, h, Only.refl _ _, hs0, ht0, .inl ht1, by omega⟩ ?_
 rintro f a w ⟨t, s, u, rfl, hD, hO, hs, hr, hr2, hf⟩
 obtain ⟨ds, dp, tr⟩ := s
 have hD0 := hD
 obtain ⟨⟨d, m1, m2⟩, v⟩ := hD
 simp only at hs v m1 m2
 have hl : 0 < ds.length := by obtain ⟨x, r, e, _⟩ := v.lead; rw [e]; simp
 have hd0 := m2 0 hl
 by_cases hsm : FP.small ds dp
 ·obtain ⟨e1, e2, e3⟩ := v.second hsm hr
  have hst := FP.stepN_le (-dp).toNat
  have hEw := hE.only hO hg
  obtain ⟨B, O, C, hB, hv, hp⟩ := hEw.pow
  have hbd := v.bounds (by omega) (by omega)
  have hC : ∀ m, Calls Tryz.prog 122 #[.pointer (some ⟨g, 0, none⟩), .int .i64 ((FP.stepN (-dp).toNat : Nat) : Int)] (w.drewN m) fun e w' => e = .returned (.tuple #[]) ∧ (DecV w' g X E (t + (FP.stepN (-dp).toNat : Nat)) (FP.shlD (FP.stepN (-dp).toNat) (ds, dp, tr)) neg ∧ Only g w w') := by
   intro m
   refine (shift_left (hD0.drewN m) (hEw.drewN m) hg (by omega) (by omega) (FP.stepN (-dp).toNat) (by omega) (by omega) (by unfold FP.Range; omega)).mono ?_
   rintro e w' ⟨h1, h2, h3⟩
   exact ⟨h1, h2, ((Only.refl g w).drewN m).trans h3⟩
  have step : ∀ (a : Act) (w' : World), (DecV w' g X E (t + (FP.stepN (-dp).toNat : Nat)) (FP.shlD (FP.stepN (-dp).toNat) (ds, dp, tr)) neg ∧ Only g w w') → a = ⟨ffr (.pointer (some ⟨g, 0, none⟩)) (.pointer (some ⟨17, 0, none⟩)) (.int .u64 0) (.bool false) (.int .i64 (-t - (FP.stepN (-dp).toNat : Int))) (.int .u64 0) (fun n => a.tmps.getD n undef), []⟩ →
    ∃ f', f' < f ∧ ∃ (t : Int) (s : List Nat × Int × Bool) (u : Nat → Value), a = ⟨ffr (.pointer (some ⟨g, 0, none⟩)) (.pointer (some ⟨17, 0, none⟩)) (.int .u64 0) (.bool false) (.int .i64 (-t)) (.int .u64 0) u, []⟩ ∧ DecV w' g X E t s neg ∧ Only g w0 w' ∧ s.2.1 ≤ 0 ∧ (0 ≤ t ∨ -1000 ≤ E + t) ∧ (t ≤ 0 ∨ E + t ≤ 0) ∧ (f' : Int) = max (2000 - t) 0 := by
   intro a w' h ha
   refine ⟨(max (2000 - (t + (FP.stepN (-dp).toNat : Nat))) 0).toNat, by omega, _, _, (fun n => a.tmps.getD n undef), ?_, h.1, hO.trans h.2, e3, by omega, by omega, by omega⟩
   rw [show -(t + ((FP.stepN (-dp).toNat : Nat) : Int)) = -t - (FP.stepN (-dp).toNat : Int) by omega]
   exact ha
  by_cases hz : dp = 0
  ·have h5 : ds.getD 0 0 < 5 := by unfold FP.small at hsm; omega
   subst hz
   exact f2_zero m1 rfl (by omega) (-t) (by omega) (by omega) hv hp (R := fun _ w' => DecV w' g X E (t + (FP.stepN (-0 : Int).toNat : Nat)) (FP.shlD (FP.stepN (-0 : Int).toNat) (ds, 0, tr)) neg ∧ Only g w w') hC u _ _ step
  ·by_cases h9 : 9 ≤ (-dp).toNat
   ·exact f2_big m1 (-dp).toNat (by omega) h9 (by omega) (-t) (by omega) (by omega) hv hp (R := fun _ w' => DecV w' g X E (t + (FP.stepN (-dp).toNat : Nat)) (FP.shlD (FP.stepN (-dp).toNat) (ds, dp, tr)) neg ∧ Only g w w') hC u _ _ step
   ·exact f2_small m1 (-dp).toNat (by omega) (by omega) (by omega) (-t) (by omega) (by omega) hv hp (R := fun _ w' => DecV w' g X E (t + (FP.stepN (-dp).toNat : Nat)) (FP.shlD (FP.stepN (-dp).toNat) (ds, dp, tr)) neg ∧ Only g w w') hC u _ _ step
 ·obtain ⟨e1, e2⟩ := v.mid hsm hs
  subst e1 e2
  refine f2_out m1 rfl (by unfold FP.small at hsm; omega) _ u _ _ fun a ha => hQ a w (ds, 0, tr) hD0 hO ?_
  rw [show -(-(E + 1)) = E + 1 by omega] at ha
  exact ha
end
end Go.Proofs.YtbimfhaokgigkaaGreatDoor
