/- Walks of functions of FnJpGetFloat (B16); conditions stand ahead of each theorem. -/
import Derived.Test.YtbimfhaokgigkaaGreatDoorT17
import Derived.Test.YtbimfhaokgigkaaGreatDoorT09
import Derived.Test.YtbimfhaokgigkaaGreatDoorT11
set_option linter.unusedVariables false
set_option linter.unusedSimpArgs false
set_option maxRecDepth 1000000
set_option maxHeartbeats 1000000
namespace Go.Proofs.YtbimfhaokgigkaaGreatDoor
open Go.RowKit Go.Proofs.YtbimfhaokgigkaaGreatDoorW.PrintWords Go.Proofs.YtbimfhaokgigkaaGreatDoorW.PrintLast
noncomputable def dB2 : Code := loopOf Tryz.f97 1
noncomputable def dTail : Code := (Tryz.f97.body.bind (behind 1)).getD .skip
section
variable (s : ByteArray) (gb : Nat) (x : Int) (N : Nat) (g : Nat → Nat) (bd bs : Bool) (esg : Int) (wc : World)
def dEAt (k : Nat) (u : Nat → Value) : Act :=
 ⟨dfr (.pointer (some ⟨gb, 0, none⟩)) (.string s) (.bool false) (.int .i64 (x + k)) (.bool bd) (.bool bs) (.int .i64 esg) (.int .i64 (FP.ecl g k : Int)) u, []⟩
theorem d2_small (hN : x + N ≤ (s.size : Int)) (hsz : (s.size : Int) ≤ 800) (hx0 : 0 ≤ x) (hg : ∀ k < N, bt s (x + k) = (g k : Int)) (hgd : ∀ k < N, 48 ≤ g k ∧ g k ≤ 57) (k : Nat) (hk : k < N) (h : FP.ecl g k < 10000)
  (u : Nat → Value) (I : Act → World → Prop) (Q : Exit → Act → World → Prop) (hI : ∀ a, a = dEAt s gb x g bd bs esg (k + 1) (fun n => a.tmps.getD n undef) → I a wc) :
  Code.wp Tryz.prog dB2 (Exit.then I Q) (dEAt s gb x g bd bs esg k u) wc := by
 have hb := hg k hk
 have hd := hgd k hk
 have b1 := FP.ecl_lt hgd k (Nat.le_of_lt hk)
 have hr : FP.ecl g (k + 1) = FP.ecl g k * 10 + (g k - 48) := by
  show (if FP.ecl g k < 10000 then FP.ecl g k * 10 + (g k - 48) else FP.ecl g k) = _
  rw [if_pos h]
 have p5 : (0 ≤ x + (k : Int)) = True := eT
 have q5 : (x + (k : Int) < (s.size : Int)) = True := eT
 have hx5 := bt_at s (x + k)
 rw [hb] at hx5
 have u95 : (((g k : Nat) : Int) == 95) = false := bF
 have t48 : decide (48 ≤ ((g k : Nat) : Int)) = true := dT
 have t57 : decide (((g k : Nat) : Int) ≤ 57) = true := dT
 have te : decide ((FP.ecl g k : Int) < 10000) = true := dT
 have ten : decide (FP.ecl g k < 10000) = true := decide_eq_true h
 have hi : x + ((k + 1 : Nat) : Int) = x + (k : Int) + 1 := by omega
 have WZ := az (show (FP.ecl g k : Int) * 10 + ((g k : Nat) : Int) - 48 = ((FP.ecl g k * 10 + (g k - 48) : Nat) : Int) by omega)
 have HR := az hr
 have HI := az hi
 have HX := az hI
 have hj800 : x + (k : Int) ≤ 800 := by omega
 clear hr hi hN hg hgd hb hI h
 unfold dEAt dfr
 conv => arg 2; whnf
 go_wp2_with fail
 refine HX.out _ ?_
 unfold dEAt
 rw [HR.out, HI.out]
 rw [WZ.out]
 rfl
theorem d2_big (hN : x + N ≤ (s.size : Int)) (hsz : (s.size : Int) ≤ 800) (hx0 : 0 ≤ x) (hg : ∀ k < N, bt s (x + k) = (g k : Int)) (hgd : ∀ k < N, 48 ≤ g k ∧ g k ≤ 57) (k : Nat) (hk : k < N) (h : ¬ FP.ecl g k < 10000)
  (u : Nat → Value) (I : Act → World → Prop) (Q : Exit → Act → World → Prop) (hI : ∀ a, a = dEAt s gb x g bd bs esg (k + 1) (fun n => a.tmps.getD n undef) → I a wc) :
  Code.wp Tryz.prog dB2 (Exit.then I Q) (dEAt s gb x g bd bs esg k u) wc := by
 have hb := hg k hk
 have hd := hgd k hk
 have b1 := FP.ecl_lt hgd k (Nat.le_of_lt hk)
 have hr : FP.ecl g (k + 1) = FP.ecl g k := by
  show (if FP.ecl g k < 10000 then FP.ecl g k * 10 + (g k - 48) else FP.ecl g k) = _
  rw [if_neg h]
 have p5 : (0 ≤ x + (k : Int)) = True := eT
 have q5 : (x + (k : Int) < (s.size : Int)) = True := eT
 have hx5 := bt_at s (x + k)
 rw [hb] at hx5
 have u95 : (((g k : Nat) : Int) == 95) = false := bF
 have t48 : decide (48 ≤ ((g k : Nat) : Int)) = true := dT
 have t57 : decide (((g k : Nat) : Int) ≤ 57) = true := dT
 have te : decide ((FP.ecl g k : Int) < 10000) = false := dF
 have ten : decide (FP.ecl g k < 10000) = false := decide_eq_false h
 have hi : x + ((k + 1 : Nat) : Int) = x + (k : Int) + 1 := by omega
 have WZ := az (show (FP.ecl g k : Int) * 10 + ((g k : Nat) : Int) - 48 = ((FP.ecl g k * 10 + (g k - 48) : Nat) : Int) by omega)
 have HR := az hr
 have HI := az hi
 have HX := az hI
 have hj800 : x + (k : Int) ≤ 800 := by omega
 clear hr hi hN hg hgd hb hI h
 unfold dEAt dfr
 conv => arg 2; whnf
 go_wp2_with fail
 refine HX.out _ ?_
 unfold dEAt
 rw [HR.out, HI.out]
 skip
 rfl
theorem d2_out (he : x + N = (s.size : Int)) (hsz : (s.size : Int) ≤ 800) (hx0 : 0 ≤ x) (u : Nat → Value) (I : Act → World → Prop) (Q : Exit → Act → World → Prop)
  (hQ : ∀ a, a = dEAt s gb x g bd bs esg N (fun n => a.tmps.getD n undef) → Q (.exit 5) a wc) : Code.wp Tryz.prog dB2 (Exit.then I Q) (dEAt s gb x g bd bs esg N u) wc := by
 have c1 : decide (x + (N : Int) < (s.size : Int)) = false := dF
 clear he
 have HX := az hQ
 clear hQ
 unfold dEAt dfr
 conv => arg 2; whnf
 go_wp2_with fail
 refine HX.out _ ?_
 rfl
theorem d2_loop (hN : x + N = (s.size : Int)) (hsz : (s.size : Int) ≤ 800) (hx0 : 0 ≤ x) (hg : ∀ k < N, bt s (x + k) = (g k : Int)) (hgd : ∀ k < N, 48 ≤ g k ∧ g k ≤ 57)
  {Q : Exit → Act → World → Prop} (hexit : ∀ u, Q (.exit 5) (dEAt s gb x g bd bs esg N u) wc)
  {c : Code} {a : Act} (hc : dB2 = c) (ha : a = ⟨dfr (.pointer (some ⟨gb, 0, none⟩)) (.string s) (.bool false) (.int .i64 x) (.bool bd) (.bool bs) (.int .i64 esg) (.int .i64 0) (fun n => a.tmps.getD n undef), []⟩) :
  Code.wp Tryz.prog (.loop c) Q a wc := by
 subst hc
 refine wp_loop_ghost (fun f a w => w = wc ∧ ∃ (k : Nat) (u : Nat → Value), k ≤ N ∧ f = N - k ∧ a = dEAt s gb x g bd bs esg k u) N ⟨rfl, 0, (fun n => a.tmps.getD n undef), Nat.zero_le _, rfl, ?_⟩ ?_
 ·unfold dEAt
  rw [show x + ((0 : Nat) : Int) = x by omega]
  exact ha
 rintro f a w ⟨rfl, k, u, hk, hf, rfl⟩
 by_cases hlt : k < N
 ·by_cases h : FP.ecl g k < 10000
  ·exact d2_small s gb x N g bd bs esg w (by omega) hsz hx0 hg hgd k hlt h u _ Q fun a ha => ⟨N - (k + 1), by omega, rfl, k + 1, _, hlt, rfl, ha⟩
  ·exact d2_big s gb x N g bd bs esg w (by omega) hsz hx0 hg hgd k hlt h u _ Q fun a ha => ⟨N - (k + 1), by omega, rfl, k + 1, _, hlt, rfl, ha⟩
 ·obtain rfl : k = N := by omega
  refine d2_out s gb x k g bd bs esg w hN hsz hx0 u _ Q fun a ha => ?_
  rw [ha]
  exact hexit _
end
section
variable (s : ByteArray) (gb : Nat) (neg : Bool) (st : Int) (M : Nat) (g : Nat → Nat) (N : Nat) (ge : Nat → Nat)
theorem Dec.cast_dp {w : World} {g : Nat} {d : Nat → Nat} {nd : Nat} {dp dp' : Int} {neg tr : Bool} (h : Dec w g d nd dp neg tr) (e : dp = dp') : Dec w g d nd dp' neg tr := e ▸ h
def SetPost (w0 : World) (gb : Nat) (ds : List Nat) (dp : Int) (neg : Bool) (e : Ending) (w' : World) : Prop := e = .returned (.bool true) ∧ DecL w' gb (ds, dp, false) neg ∧ Only gb w0 w'
theorem dt_true_end (hsz : (s.size : Int) ≤ 800) (hst0 : 0 ≤ st) (hst1 : st ≤ 1) (hM1 : st + M ≤ (s.size : Int)) (hgd : ∀ j < M, g j = 46 ∨ (48 ≤ g j ∧ g j ≤ 57)) (hseen : (FP.rst g M).seen = true) (hdd : (FP.rst g M).dotted = true) (hM : st + M = (s.size : Int))
  {w0 w : World} {d : Nat → Nat} (hD : Dec w gb d (FP.rst g M).nd (FP.rst g M).dp neg false) (hL : FP.Lst d (FP.sds g M)) (hO : Only gb w0 w) (x8 x9 : Value) (u : Nat → Value) (Q : Exit → Act → World → Prop)
  (hQ : ∀ a w', Q .ret a w' = bodyPost Tryz.prog Tryz.f97 (SetPost w0 gb (FP.sds g M) (FP.rst g M).dp neg) .ret a w') :
  Code.wp Tryz.prog dTail Q (dAt s gb st g M x8 x9 u) w := by
 have hok := FP.rst_ok hgd M (Nat.le_refl _)
 have b1 : ((FP.rst g M).nd : Int) ≤ 800 := by have := hok.nd; omega
 have b4 : -800 ≤ (FP.rst g M).dp := by have := hok.lo; omega
 have b5 : (FP.rst g M).dp ≤ 800 := by have := hok.hi; omega
 have hsl := FP.sds_len (g := g) M
 have v0 := hD.cnd
 have v1 := hD.cdp
 have f1 := hD.frozen 801
 have HQ := az hQ
 have HD := az hD
 have HO := az hO
 have fin : ∀ w', Dec w' gb d (FP.rst g M).nd (FP.rst g M).dp neg false → Only gb w w' → SetPost w0 gb (FP.sds g M) (FP.rst g M).dp neg (.returned (.bool true)) w' := by
  intro w' h1 h2
  refine ⟨rfl, ⟨d, ?_, hL⟩, hO.trans h2⟩
  show Dec w' gb d (FP.sds g M).length (FP.rst g M).dp neg false
  rw [hsl]
  exact h1
 have FIN := az fin
 obtain ⟨R, hR⟩ : ∃ R, R = SetPost w0 gb (FP.sds g M) (FP.rst g M).dp neg := ⟨_, rfl⟩
 rw [← hR] at HQ FIN
 clear hQ hD hO hL fin hok hgd hsl hR
 have c1 : decide (st + (M : Int) < (s.size : Int)) = false := dF
 have c2 : (st + (M : Int) != (s.size : Int)) = false := by rw [bne_eq_false_iff_eq]; exact hM
 have hs8 : (s.size : Int) ≤ 800 := hsz
 clear hM
 clear hM1
 unfold dAt dfr
 rw [hseen, hdd]
 clear hseen hdd
 conv => arg 2; whnf
 go_wp2_with fail
 rw [HQ.out]
 go_returns
 exact FIN.out _ (Dec.cast_dp (HD.out) (by omega)) (Only.refl gb _)
theorem dt_true_none (hsz : (s.size : Int) ≤ 800) (hst0 : 0 ≤ st) (hst1 : st ≤ 1) (hM1 : st + M ≤ (s.size : Int)) (hgd : ∀ j < M, g j = 46 ∨ (48 ≤ g j ∧ g j ≤ 57)) (hseen : (FP.rst g M).seen = true) (hdd : (FP.rst g M).dotted = true) (he : bt s (st + (M : Int)) = 69 ∨ bt s (st + (M : Int)) = 101)  (hN1 : 1 ≤ N) (hN : (st + (M : Int) + 1) + N = (s.size : Int)) (hb : ∀ k < N, bt s ((st + (M : Int) + 1) + k) = (ge k : Int)) (hbd : ∀ k < N, 48 ≤ ge k ∧ ge k ≤ 57)
  {w0 w : World} {d : Nat → Nat} (hD : Dec w gb d (FP.rst g M).nd (FP.rst g M).dp neg false) (hL : FP.Lst d (FP.sds g M)) (hO : Only gb w0 w) (x8 x9 : Value) (u : Nat → Value) (Q : Exit → Act → World → Prop)
  (hQ : ∀ a w', Q .ret a w' = bodyPost Tryz.prog Tryz.f97 (SetPost w0 gb (FP.sds g M) ((FP.rst g M).dp + (FP.ecl ge N : Int) * (1)) neg) .ret a w') :
  Code.wp Tryz.prog dTail Q (dAt s gb st g M x8 x9 u) w := by
 have hok := FP.rst_ok hgd M (Nat.le_refl _)
 have b1 : ((FP.rst g M).nd : Int) ≤ 800 := by have := hok.nd; omega
 have b4 : -800 ≤ (FP.rst g M).dp := by have := hok.lo; omega
 have b5 : (FP.rst g M).dp ≤ 800 := by have := hok.hi; omega
 have hsl := FP.sds_len (g := g) M
 have v0 := hD.cnd
 have v1 := hD.cdp
 have f1 := hD.frozen 801
 have HQ := az hQ
 have HD := az hD
 have HO := az hO
 have fin : ∀ w', Dec w' gb d (FP.rst g M).nd ((FP.rst g M).dp + (FP.ecl ge N : Int) * (1)) neg false → Only gb w w' → SetPost w0 gb (FP.sds g M) ((FP.rst g M).dp + (FP.ecl ge N : Int) * (1)) neg (.returned (.bool true)) w' := by
  intro w' h1 h2
  refine ⟨rfl, ⟨d, ?_, hL⟩, hO.trans h2⟩
  show Dec w' gb d (FP.sds g M).length ((FP.rst g M).dp + (FP.ecl ge N : Int) * (1)) neg false
  rw [hsl]
  exact h1
 have FIN := az fin
 obtain ⟨R, hR⟩ : ∃ R, R = SetPost w0 gb (FP.sds g M) ((FP.rst g M).dp + (FP.ecl ge N : Int) * (1)) neg := ⟨_, rfl⟩
 rw [← hR] at HQ FIN
 clear hQ hD hO hL fin hok hgd hsl hR
 have b6 := FP.ecl_lt hbd N (Nat.le_refl _)
 have hM800 : st + (M : Int) + 2 ≤ 800 := by omega
 have c1 : decide (st + (M : Int) < (s.size : Int)) = true := dT
 have c2 : decide ((s.size : Int) ≤ st + (M : Int) + 1) = false := dF
 have p0 : (0 ≤ st + (M : Int)) = True := eT
 have q0 : (st + (M : Int) < (s.size : Int)) = True := eT
 have x0 := bt_at s (st + (M : Int))
 have hlow : (Go.bits .or .u8 (bt s (st + (M : Int))) 32 == 101) = true := by rcases he with h | h <;> rw [h] <;> decide
 have p1 : (0 ≤ st + (M : Int) + 1) = True := eT
 have q1 : (st + (M : Int) + 1 < (s.size : Int)) = True := eT
 have x1 := bt_at s (st + (M : Int) + 1)
 have hd0 := hb 0 (by omega)
 have hd1 := hbd 0 (by omega)
 have cend : ((st + (M : Int) + 1) + (N : Int) != (s.size : Int)) = false := by rw [bne_eq_false_iff_eq]; exact hN
 rw [show (st + (M : Int) + 1) + ((0 : Nat) : Int) = (st + (M : Int) + 1) by omega] at hd0
 have s43 : (bt s (st + (M : Int) + 1) == 43) = false := bF
 have s45 : (bt s (st + (M : Int) + 1) == 45) = false := bF
 have l48 : decide (bt s (st + (M : Int) + 1) < 48) = false := dF
 have l57 : decide (57 < bt s (st + (M : Int) + 1)) = false := dF
 clear hd0 hd1
 have HN := az hN
 have HB := az hb
 have HBD := az hbd
 have hx0 : 0 ≤ (st + (M : Int) + 1) := by omega
 clear hb hbd hN he
 clear hM1
 unfold dAt dfr
 rw [hseen, hdd]
 clear hseen hdd
 conv => arg 2; whnf
 go_wp2_with fail
 go_call (lower_calls _ _) as e w1 ⟨rfl, rfl⟩
 go_wp2_with fail
 refine d2_loop s gb (st + (M : Int) + 1) N ge true true (1) _ HN.out hsz hx0 HB.out HBD.out ?_ (by kernel_rfl) rfl
 intro u
 unfold dEAt dfr
 simp only [Exit.inBlock, Exit.then, ↓reduceIte]
 go_wp2_with fail
 rw [HQ.out]
 go_returns
 exact FIN.out _ (Dec.cast_dp ((HD.out.set_dp _)) (by omega)) ((Only.refl gb _).set _ _)
theorem dt_true_plus (hsz : (s.size : Int) ≤ 800) (hst0 : 0 ≤ st) (hst1 : st ≤ 1) (hM1 : st + M ≤ (s.size : Int)) (hgd : ∀ j < M, g j = 46 ∨ (48 ≤ g j ∧ g j ≤ 57)) (hseen : (FP.rst g M).seen = true) (hdd : (FP.rst g M).dotted = true) (he : bt s (st + (M : Int)) = 69 ∨ bt s (st + (M : Int)) = 101) (hs : bt s (st + (M : Int) + 1) = 43) (hN1 : 1 ≤ N) (hN : (st + (M : Int) + 1 + 1) + N = (s.size : Int)) (hb : ∀ k < N, bt s ((st + (M : Int) + 1 + 1) + k) = (ge k : Int)) (hbd : ∀ k < N, 48 ≤ ge k ∧ ge k ≤ 57)
  {w0 w : World} {d : Nat → Nat} (hD : Dec w gb d (FP.rst g M).nd (FP.rst g M).dp neg false) (hL : FP.Lst d (FP.sds g M)) (hO : Only gb w0 w) (x8 x9 : Value) (u : Nat → Value) (Q : Exit → Act → World → Prop)
  (hQ : ∀ a w', Q .ret a w' = bodyPost Tryz.prog Tryz.f97 (SetPost w0 gb (FP.sds g M) ((FP.rst g M).dp + (FP.ecl ge N : Int) * (1)) neg) .ret a w') :
  Code.wp Tryz.prog dTail Q (dAt s gb st g M x8 x9 u) w := by
 have hok := FP.rst_ok hgd M (Nat.le_refl _)
 have b1 : ((FP.rst g M).nd : Int) ≤ 800 := by have := hok.nd; omega
 have b4 : -800 ≤ (FP.rst g M).dp := by have := hok.lo; omega
 have b5 : (FP.rst g M).dp ≤ 800 := by have := hok.hi; omega
 have hsl := FP.sds_len (g := g) M
 have v0 := hD.cnd
 have v1 := hD.cdp
 have f1 := hD.frozen 801
 have HQ := az hQ
 have HD := az hD
 have HO := az hO
 have fin : ∀ w', Dec w' gb d (FP.rst g M).nd ((FP.rst g M).dp + (FP.ecl ge N : Int) * (1)) neg false → Only gb w w' → SetPost w0 gb (FP.sds g M) ((FP.rst g M).dp + (FP.ecl ge N : Int) * (1)) neg (.returned (.bool true)) w' := by
  intro w' h1 h2
  refine ⟨rfl, ⟨d, ?_, hL⟩, hO.trans h2⟩
  show Dec w' gb d (FP.sds g M).length ((FP.rst g M).dp + (FP.ecl ge N : Int) * (1)) neg false
  rw [hsl]
  exact h1
 have FIN := az fin
 obtain ⟨R, hR⟩ : ∃ R, R = SetPost w0 gb (FP.sds g M) ((FP.rst g M).dp + (FP.ecl ge N : Int) * (1)) neg := ⟨_, rfl⟩
 rw [← hR] at HQ FIN
 clear hQ hD hO hL fin hok hgd hsl hR
 have b6 := FP.ecl_lt hbd N (Nat.le_refl _)
 have hM800 : st + (M : Int) + 2 ≤ 800 := by omega
 have c1 : decide (st + (M : Int) < (s.size : Int)) = true := dT
 have c2 : decide ((s.size : Int) ≤ st + (M : Int) + 1) = false := dF
 have p0 : (0 ≤ st + (M : Int)) = True := eT
 have q0 : (st + (M : Int) < (s.size : Int)) = True := eT
 have x0 := bt_at s (st + (M : Int))
 have hlow : (Go.bits .or .u8 (bt s (st + (M : Int))) 32 == 101) = true := by rcases he with h | h <;> rw [h] <;> decide
 have p1 : (0 ≤ st + (M : Int) + 1) = True := eT
 have q1 : (st + (M : Int) + 1 < (s.size : Int)) = True := eT
 have x1 := bt_at s (st + (M : Int) + 1)
 have hd0 := hb 0 (by omega)
 have hd1 := hbd 0 (by omega)
 have cend : ((st + (M : Int) + 1 + 1) + (N : Int) != (s.size : Int)) = false := by rw [bne_eq_false_iff_eq]; exact hN
 rw [show (st + (M : Int) + 1 + 1) + ((0 : Nat) : Int) = (st + (M : Int) + 1 + 1) by omega] at hd0
 have s43 : (bt s (st + (M : Int) + 1) == 43) = true := by rw [hs]; decide
 have s45 : (bt s (st + (M : Int) + 1) == 45) = false := by rw [hs]; decide
 have c3 : decide ((s.size : Int) ≤ st + (M : Int) + 1 + 1) = false := dF
 have p2 : (0 ≤ st + (M : Int) + 1 + 1) = True := eT
 have q2 : (st + (M : Int) + 1 + 1 < (s.size : Int)) = True := eT
 have x2 := bt_at s (st + (M : Int) + 1 + 1)
 have l48 : decide (bt s (st + (M : Int) + 1 + 1) < 48) = false := dF
 have l57 : decide (57 < bt s (st + (M : Int) + 1 + 1)) = false := dF
 clear hd0 hd1 hs
 have HN := az hN
 have HB := az hb
 have HBD := az hbd
 have hx0 : 0 ≤ (st + (M : Int) + 1 + 1) := by omega
 clear hb hbd hN he
 clear hM1
 unfold dAt dfr
 rw [hseen, hdd]
 clear hseen hdd
 conv => arg 2; whnf
 go_wp2_with fail
 go_call (lower_calls _ _) as e w1 ⟨rfl, rfl⟩
 go_wp2_with fail
 refine d2_loop s gb (st + (M : Int) + 1 + 1) N ge true true (1) _ HN.out hsz hx0 HB.out HBD.out ?_ (by kernel_rfl) rfl
 intro u
 unfold dEAt dfr
 simp only [Exit.inBlock, Exit.then, ↓reduceIte]
 go_wp2_with fail
 rw [HQ.out]
 go_returns
 exact FIN.out _ (Dec.cast_dp ((HD.out.set_dp _)) (by omega)) ((Only.refl gb _).set _ _)
theorem dt_true_minus (hsz : (s.size : Int) ≤ 800) (hst0 : 0 ≤ st) (hst1 : st ≤ 1) (hM1 : st + M ≤ (s.size : Int)) (hgd : ∀ j < M, g j = 46 ∨ (48 ≤ g j ∧ g j ≤ 57)) (hseen : (FP.rst g M).seen = true) (hdd : (FP.rst g M).dotted = true) (he : bt s (st + (M : Int)) = 69 ∨ bt s (st + (M : Int)) = 101) (hs : bt s (st + (M : Int) + 1) = 45) (hN1 : 1 ≤ N) (hN : (st + (M : Int) + 1 + 1) + N = (s.size : Int)) (hb : ∀ k < N, bt s ((st + (M : Int) + 1 + 1) + k) = (ge k : Int)) (hbd : ∀ k < N, 48 ≤ ge k ∧ ge k ≤ 57)
  {w0 w : World} {d : Nat → Nat} (hD : Dec w gb d (FP.rst g M).nd (FP.rst g M).dp neg false) (hL : FP.Lst d (FP.sds g M)) (hO : Only gb w0 w) (x8 x9 : Value) (u : Nat → Value) (Q : Exit → Act → World → Prop)
  (hQ : ∀ a w', Q .ret a w' = bodyPost Tryz.prog Tryz.f97 (SetPost w0 gb (FP.sds g M) ((FP.rst g M).dp + (FP.ecl ge N : Int) * (-1)) neg) .ret a w') :
  Code.wp Tryz.prog dTail Q (dAt s gb st g M x8 x9 u) w := by
 have hok := FP.rst_ok hgd M (Nat.le_refl _)
 have b1 : ((FP.rst g M).nd : Int) ≤ 800 := by have := hok.nd; omega
 have b4 : -800 ≤ (FP.rst g M).dp := by have := hok.lo; omega
 have b5 : (FP.rst g M).dp ≤ 800 := by have := hok.hi; omega
 have hsl := FP.sds_len (g := g) M
 have v0 := hD.cnd
 have v1 := hD.cdp
 have f1 := hD.frozen 801
 have HQ := az hQ
 have HD := az hD
 have HO := az hO
 have fin : ∀ w', Dec w' gb d (FP.rst g M).nd ((FP.rst g M).dp + (FP.ecl ge N : Int) * (-1)) neg false → Only gb w w' → SetPost w0 gb (FP.sds g M) ((FP.rst g M).dp + (FP.ecl ge N : Int) * (-1)) neg (.returned (.bool true)) w' := by
  intro w' h1 h2
  refine ⟨rfl, ⟨d, ?_, hL⟩, hO.trans h2⟩
  show Dec w' gb d (FP.sds g M).length ((FP.rst g M).dp + (FP.ecl ge N : Int) * (-1)) neg false
  rw [hsl]
  exact h1
 have FIN := az fin
 obtain ⟨R, hR⟩ : ∃ R, R = SetPost w0 gb (FP.sds g M) ((FP.rst g M).dp + (FP.ecl ge N : Int) * (-1)) neg := ⟨_, rfl⟩
 rw [← hR] at HQ FIN
 clear hQ hD hO hL fin hok hgd hsl hR
 have b6 := FP.ecl_lt hbd N (Nat.le_refl _)
 have hM800 : st + (M : Int) + 2 ≤ 800 := by omega
 have c1 : decide (st + (M : Int) < (s.size : Int)) = true := dT
 have c2 : decide ((s.size : Int) ≤ st + (M : Int) + 1) = false := dF
 have p0 : (0 ≤ st + (M : Int)) = True := eT
 have q0 : (st + (M : Int) < (s.size : Int)) = True := eT
 have x0 := bt_at s (st + (M : Int))
 have hlow : (Go.bits .or .u8 (bt s (st + (M : Int))) 32 == 101) = true := by rcases he with h | h <;> rw [h] <;> decide
 have p1 : (0 ≤ st + (M : Int) + 1) = True := eT
 have q1 : (st + (M : Int) + 1 < (s.size : Int)) = True := eT
 have x1 := bt_at s (st + (M : Int) + 1)
 have hd0 := hb 0 (by omega)
 have hd1 := hbd 0 (by omega)
 have cend : ((st + (M : Int) + 1 + 1) + (N : Int) != (s.size : Int)) = false := by rw [bne_eq_false_iff_eq]; exact hN
 rw [show (st + (M : Int) + 1 + 1) + ((0 : Nat) : Int) = (st + (M : Int) + 1 + 1) by omega] at hd0
 have s43 : (bt s (st + (M : Int) + 1) == 43) = false := by rw [hs]; decide
 have s45 : (bt s (st + (M : Int) + 1) == 45) = true := by rw [hs]; decide
 have c3 : decide ((s.size : Int) ≤ st + (M : Int) + 1 + 1) = false := dF
 have p2 : (0 ≤ st + (M : Int) + 1 + 1) = True := eT
 have q2 : (st + (M : Int) + 1 + 1 < (s.size : Int)) = True := eT
 have x2 := bt_at s (st + (M : Int) + 1 + 1)
 have l48 : decide (bt s (st + (M : Int) + 1 + 1) < 48) = false := dF
 have l57 : decide (57 < bt s (st + (M : Int) + 1 + 1)) = false := dF
 clear hd0 hd1 hs
 have HN := az hN
 have HB := az hb
 have HBD := az hbd
 have hx0 : 0 ≤ (st + (M : Int) + 1 + 1) := by omega
 clear hb hbd hN he
 clear hM1
 unfold dAt dfr
 rw [hseen, hdd]
 clear hseen hdd
 conv => arg 2; whnf
 go_wp2_with fail
 go_call (lower_calls _ _) as e w1 ⟨rfl, rfl⟩
 go_wp2_with fail
 refine d2_loop s gb (st + (M : Int) + 1 + 1) N ge true true (-1) _ HN.out hsz hx0 HB.out HBD.out ?_ (by kernel_rfl) rfl
 intro u
 unfold dEAt dfr
 simp only [Exit.inBlock, Exit.then, ↓reduceIte]
 go_wp2_with fail
 rw [HQ.out]
 go_returns
 exact FIN.out _ (Dec.cast_dp ((HD.out.set_dp _)) (by omega)) ((Only.refl gb _).set _ _)
theorem dt_false_end (hsz : (s.size : Int) ≤ 800) (hst0 : 0 ≤ st) (hst1 : st ≤ 1) (hM1 : st + M ≤ (s.size : Int)) (hgd : ∀ j < M, g j = 46 ∨ (48 ≤ g j ∧ g j ≤ 57)) (hseen : (FP.rst g M).seen = true) (hdd : (FP.rst g M).dotted = false) (hM : st + M = (s.size : Int))
  {w0 w : World} {d : Nat → Nat} (hD : Dec w gb d (FP.rst g M).nd (FP.rst g M).dp neg false) (hL : FP.Lst d (FP.sds g M)) (hO : Only gb w0 w) (x8 x9 : Value) (u : Nat → Value) (Q : Exit → Act → World → Prop)
  (hQ : ∀ a w', Q .ret a w' = bodyPost Tryz.prog Tryz.f97 (SetPost w0 gb (FP.sds g M) ((FP.rst g M).nd : Int) neg) .ret a w') :
  Code.wp Tryz.prog dTail Q (dAt s gb st g M x8 x9 u) w := by
 have hok := FP.rst_ok hgd M (Nat.le_refl _)
 have b1 : ((FP.rst g M).nd : Int) ≤ 800 := by have := hok.nd; omega
 have b4 : -800 ≤ (FP.rst g M).dp := by have := hok.lo; omega
 have b5 : (FP.rst g M).dp ≤ 800 := by have := hok.hi; omega
 have hsl := FP.sds_len (g := g) M
 have v0 := hD.cnd
 have v1 := hD.cdp
 have f1 := hD.frozen 801
 have HQ := az hQ
 have HD := az hD
 have HO := az hO
 have fin : ∀ w', Dec w' gb d (FP.rst g M).nd ((FP.rst g M).nd : Int) neg false → Only gb w w' → SetPost w0 gb (FP.sds g M) ((FP.rst g M).nd : Int) neg (.returned (.bool true)) w' := by
  intro w' h1 h2
  refine ⟨rfl, ⟨d, ?_, hL⟩, hO.trans h2⟩
  show Dec w' gb d (FP.sds g M).length ((FP.rst g M).nd : Int) neg false
  rw [hsl]
  exact h1
 have FIN := az fin
 obtain ⟨R, hR⟩ : ∃ R, R = SetPost w0 gb (FP.sds g M) ((FP.rst g M).nd : Int) neg := ⟨_, rfl⟩
 rw [← hR] at HQ FIN
 clear hQ hD hO hL fin hok hgd hsl hR
 have c1 : decide (st + (M : Int) < (s.size : Int)) = false := dF
 have c2 : (st + (M : Int) != (s.size : Int)) = false := by rw [bne_eq_false_iff_eq]; exact hM
 have hs8 : (s.size : Int) ≤ 800 := hsz
 clear hM
 clear hM1
 unfold dAt dfr
 rw [hseen, hdd]
 clear hseen hdd
 conv => arg 2; whnf
 go_wp2_with fail
 rw [HQ.out]
 go_returns
 exact FIN.out _ (Dec.cast_dp ((HD.out.set_dp _)) (by omega)) ((Only.refl gb _).set _ _)
theorem dt_false_none (hsz : (s.size : Int) ≤ 800) (hst0 : 0 ≤ st) (hst1 : st ≤ 1) (hM1 : st + M ≤ (s.size : Int)) (hgd : ∀ j < M, g j = 46 ∨ (48 ≤ g j ∧ g j ≤ 57)) (hseen : (FP.rst g M).seen = true) (hdd : (FP.rst g M).dotted = false) (he : bt s (st + (M : Int)) = 69 ∨ bt s (st + (M : Int)) = 101)  (hN1 : 1 ≤ N) (hN : (st + (M : Int) + 1) + N = (s.size : Int)) (hb : ∀ k < N, bt s ((st + (M : Int) + 1) + k) = (ge k : Int)) (hbd : ∀ k < N, 48 ≤ ge k ∧ ge k ≤ 57)
  {w0 w : World} {d : Nat → Nat} (hD : Dec w gb d (FP.rst g M).nd (FP.rst g M).dp neg false) (hL : FP.Lst d (FP.sds g M)) (hO : Only gb w0 w) (x8 x9 : Value) (u : Nat → Value) (Q : Exit → Act → World → Prop)
  (hQ : ∀ a w', Q .ret a w' = bodyPost Tryz.prog Tryz.f97 (SetPost w0 gb (FP.sds g M) (((FP.rst g M).nd : Int) + (FP.ecl ge N : Int) * (1)) neg) .ret a w') :
  Code.wp Tryz.prog dTail Q (dAt s gb st g M x8 x9 u) w := by
 have hok := FP.rst_ok hgd M (Nat.le_refl _)
 have b1 : ((FP.rst g M).nd : Int) ≤ 800 := by have := hok.nd; omega
 have b4 : -800 ≤ (FP.rst g M).dp := by have := hok.lo; omega
 have b5 : (FP.rst g M).dp ≤ 800 := by have := hok.hi; omega
 have hsl := FP.sds_len (g := g) M
 have v0 := hD.cnd
 have v1 := hD.cdp
 have f1 := hD.frozen 801
 have HQ := az hQ
 have HD := az hD
 have HO := az hO
 have fin : ∀ w', Dec w' gb d (FP.rst g M).nd (((FP.rst g M).nd : Int) + (FP.ecl ge N : Int) * (1)) neg false → Only gb w w' → SetPost w0 gb (FP.sds g M) (((FP.rst g M).nd : Int) + (FP.ecl ge N : Int) * (1)) neg (.returned (.bool true)) w' := by
  intro w' h1 h2
  refine ⟨rfl, ⟨d, ?_, hL⟩, hO.trans h2⟩
  show Dec w' gb d (FP.sds g M).length (((FP.rst g M).nd : Int) + (FP.ecl ge N : Int) * (1)) neg false
  rw [hsl]
  exact h1
 have FIN := az fin
 obtain ⟨R, hR⟩ : ∃ R, R = SetPost w0 gb (FP.sds g M) (((FP.rst g M).nd : Int) + (FP.ecl ge N : Int) * (1)) neg := ⟨_, rfl⟩
 rw [← hR] at HQ FIN
 clear hQ hD hO hL fin hok hgd hsl hR
 have b6 := FP.ecl_lt hbd N (Nat.le_refl _)
 have hM800 : st + (M : Int) + 2 ≤ 800 := by omega
 have c1 : decide (st + (M : Int) < (s.size : Int)) = true := dT
 have c2 : decide ((s.size : Int) ≤ st + (M : Int) + 1) = false := dF
 have p0 : (0 ≤ st + (M : Int)) = True := eT
 have q0 : (st + (M : Int) < (s.size : Int)) = True := eT
 have x0 := bt_at s (st + (M : Int))
 have hlow : (Go.bits .or .u8 (bt s (st + (M : Int))) 32 == 101) = true := by rcases he with h | h <;> rw [h] <;> decide
 have p1 : (0 ≤ st + (M : Int) + 1) = True := eT
 have q1 : (st + (M : Int) + 1 < (s.size : Int)) = True := eT
 have x1 := bt_at s (st + (M : Int) + 1)
 have hd0 := hb 0 (by omega)
 have hd1 := hbd 0 (by omega)
 have cend : ((st + (M : Int) + 1) + (N : Int) != (s.size : Int)) = false := by rw [bne_eq_false_iff_eq]; exact hN
 rw [show (st + (M : Int) + 1) + ((0 : Nat) : Int) = (st + (M : Int) + 1) by omega] at hd0
 have s43 : (bt s (st + (M : Int) + 1) == 43) = false := bF
 have s45 : (bt s (st + (M : Int) + 1) == 45) = false := bF
 have l48 : decide (bt s (st + (M : Int) + 1) < 48) = false := dF
 have l57 : decide (57 < bt s (st + (M : Int) + 1)) = false := dF
 clear hd0 hd1
 have HN := az hN
 have HB := az hb
 have HBD := az hbd
 have hx0 : 0 ≤ (st + (M : Int) + 1) := by omega
 clear hb hbd hN he
 clear hM1
 unfold dAt dfr
 rw [hseen, hdd]
 clear hseen hdd
 conv => arg 2; whnf
 go_wp2_with fail
 go_call (lower_calls _ _) as e w1 ⟨rfl, rfl⟩
 go_wp2_with fail
 refine d2_loop s gb (st + (M : Int) + 1) N ge false true (1) _ HN.out hsz hx0 HB.out HBD.out ?_ (by kernel_rfl) rfl
 intro u
 unfold dEAt dfr
 simp only [Exit.inBlock, Exit.then, ↓reduceIte]
 go_wp2_with fail
 rw [HQ.out]
 go_returns
 exact FIN.out _ (Dec.cast_dp (((HD.out.set_dp _).set_dp _)) (by omega)) (((Only.refl gb _).set _ _).set _ _)
theorem dt_false_plus (hsz : (s.size : Int) ≤ 800) (hst0 : 0 ≤ st) (hst1 : st ≤ 1) (hM1 : st + M ≤ (s.size : Int)) (hgd : ∀ j < M, g j = 46 ∨ (48 ≤ g j ∧ g j ≤ 57)) (hseen : (FP.rst g M).seen = true) (hdd : (FP.rst g M).dotted = false) (he : bt s (st + (M : Int)) = 69 ∨ bt s (st + (M : Int)) = 101) (hs : bt s (st + (M : Int) + 1) = 43) (hN1 : 1 ≤ N) (hN : (st + (M : Int) + 1 + 1) + N = (s.size : Int)) (hb : ∀ k < N, bt s ((st + (M : Int) + 1 + 1) + k) = (ge k : Int)) (hbd : ∀ k < N, 48 ≤ ge k ∧ ge k ≤ 57)
  {w0 w : World} {d : Nat → Nat} (hD : Dec w gb d (FP.rst g M).nd (FP.rst g M).dp neg false) (hL : FP.Lst d (FP.sds g M)) (hO : Only gb w0 w) (x8 x9 : Value) (u : Nat → Value) (Q : Exit → Act → World → Prop)
  (hQ : ∀ a w', Q .ret a w' = bodyPost Tryz.prog Tryz.f97 (SetPost w0 gb (FP.sds g M) (((FP.rst g M).nd : Int) + (FP.ecl ge N : Int) * (1)) neg) .ret a w') :
  Code.wp Tryz.prog dTail Q (dAt s gb st g M x8 x9 u) w := by
 have hok := FP.rst_ok hgd M (Nat.le_refl _)
 have b1 : ((FP.rst g M).nd : Int) ≤ 800 := by have := hok.nd; omega
 have b4 : -800 ≤ (FP.rst g M).dp := by have := hok.lo; omega
 have b5 : (FP.rst g M).dp ≤ 800 := by have := hok.hi; omega
 have hsl := FP.sds_len (g := g) M
 have v0 := hD.cnd
 have v1 := hD.cdp
 have f1 := hD.frozen 801
 have HQ := az hQ
 have HD := az hD
 have HO := az hO
 have fin : ∀ w', Dec w' gb d (FP.rst g M).nd (((FP.rst g M).nd : Int) + (FP.ecl ge N : Int) * (1)) neg false → Only gb w w' → SetPost w0 gb (FP.sds g M) (((FP.rst g M).nd : Int) + (FP.ecl ge N : Int) * (1)) neg (.returned (.bool true)) w' := by
  intro w' h1 h2
  refine ⟨rfl, ⟨d, ?_, hL⟩, hO.trans h2⟩
  show Dec w' gb d (FP.sds g M).length (((FP.rst g M).nd : Int) + (FP.ecl ge N : Int) * (1)) neg false
  rw [hsl]
  exact h1
 have FIN := az fin
 obtain ⟨R, hR⟩ : ∃ R, R = SetPost w0 gb (FP.sds g M) (((FP.rst g M).nd : Int) + (FP.ecl ge N : Int) * (1)) neg := ⟨_, rfl⟩
 rw [← hR] at HQ FIN
 clear hQ hD hO hL fin hok hgd hsl hR
 have b6 := FP.ecl_lt hbd N (Nat.le_refl _)
 have hM800 : st + (M : Int) + 2 ≤ 800 := by omega
 have c1 : decide (st + (M : Int) < (s.size : Int)) = true := dT
 have c2 : decide ((s.size : Int) ≤ st + (M : Int) + 1) = false := dF
 have p0 : (0 ≤ st + (M : Int)) = True := eT
 have q0 : (st + (M : Int) < (s.size : Int)) = True := eT
 have x0 := bt_at s (st + (M : Int))
 have hlow : (Go.bits .or .u8 (bt s (st + (M : Int))) 32 == 101) = true := by rcases he with h | h <;> rw [h] <;> decide
 have p1 : (0 ≤ st + (M : Int) + 1) = True := eT
 have q1 : (st + (M : Int) + 1 < (s.size : Int)) = True := eT
 have x1 := bt_at s (st + (M : Int) + 1)
 have hd0 := hb 0 (by omega)
 have hd1 := hbd 0 (by omega)
 have cend : ((st + (M : Int) + 1 + 1) + (N : Int) != (s.size : Int)) = false := by rw [bne_eq_false_iff_eq]; exact hN
 rw [show (st + (M : Int) + 1 + 1) + ((0 : Nat) : Int) = (st + (M : Int) + 1 + 1) by omega] at hd0
 have s43 : (bt s (st + (M : Int) + 1) == 43) = true := by rw [hs]; decide
 have s45 : (bt s (st + (M : Int) + 1) == 45) = false := by rw [hs]; decide
 have c3 : decide ((s.size : Int) ≤ st + (M : Int) + 1 + 1) = false := dF
 have p2 : (0 ≤ st + (M : Int) + 1 + 1) = True := eT
 have q2 : (st + (M : Int) + 1 + 1 < (s.size : Int)) = True := eT
 have x2 := bt_at s (st + (M : Int) + 1 + 1)
 have l48 : decide (bt s (st + (M : Int) + 1 + 1) < 48) = false := dF
 have l57 : decide (57 < bt s (st + (M : Int) + 1 + 1)) = false := dF
 clear hd0 hd1 hs
 have HN := az hN
 have HB := az hb
 have HBD := az hbd
 have hx0 : 0 ≤ (st + (M : Int) + 1 + 1) := by omega
 clear hb hbd hN he
 clear hM1
 unfold dAt dfr
 rw [hseen, hdd]
 clear hseen hdd
 conv => arg 2; whnf
 go_wp2_with fail
 go_call (lower_calls _ _) as e w1 ⟨rfl, rfl⟩
 go_wp2_with fail
 refine d2_loop s gb (st + (M : Int) + 1 + 1) N ge false true (1) _ HN.out hsz hx0 HB.out HBD.out ?_ (by kernel_rfl) rfl
 intro u
 unfold dEAt dfr
 simp only [Exit.inBlock, Exit.then, ↓reduceIte]
 go_wp2_with fail
 rw [HQ.out]
 go_returns
 exact FIN.out _ (Dec.cast_dp (((HD.out.set_dp _).set_dp _)) (by omega)) (((Only.refl gb _).set _ _).set _ _)
theorem dt_false_minus (hsz : (s.size : Int) ≤ 800) (hst0 : 0 ≤ st) (hst1 : st ≤ 1) (hM1 : st + M ≤ (s.size : Int)) (hgd : ∀ j < M, g j = 46 ∨ (48 ≤ g j ∧ g j ≤ 57)) (hseen : (FP.rst g M).seen = true) (hdd : (FP.rst g M).dotted = false) (he : bt s (st + (M : Int)) = 69 ∨ bt s (st + (M : Int)) = 101) (hs : bt s (st + (M : Int) + 1) = 45) (hN1 : 1 ≤ N) (hN : (st + (M : Int) + 1 + 1) + N = (s.size : Int)) (hb : ∀ k < N, bt s ((st + (M : Int) + 1 + 1) + k) = (ge k : Int)) (hbd : ∀ k < N, 48 ≤ ge k ∧ ge k ≤ 57)
  {w0 w : World} {d : Nat → Nat} (hD : Dec w gb d (FP.rst g M).nd (FP.rst g M).dp neg false) (hL : FP.Lst d (FP.sds g M)) (hO : Only gb w0 w) (x8 x9 : Value) (u : Nat → Value) (Q : Exit → Act → World → Prop)
  (hQ : ∀ a w', Q .ret a w' = bodyPost Tryz.prog Tryz.f97 (SetPost w0 gb (FP.sds g M) (((FP.rst g M).nd : Int) + (FP.ecl ge N : Int) * (-1)) neg) .ret a w') :
  Code.wp Tryz.prog dTail Q (dAt s gb st g M x8 x9 u) w := by
 have hok := FP.rst_ok hgd M (Nat.le_refl _)
 have b1 : ((FP.rst g M).nd : Int) ≤ 800 := by have := hok.nd; omega
 have b4 : -800 ≤ (FP.rst g M).dp := by have := hok.lo; omega
 have b5 : (FP.rst g M).dp ≤ 800 := by have := hok.hi; omega
 have hsl := FP.sds_len (g := g) M
 have v0 := hD.cnd
 have v1 := hD.cdp
 have f1 := hD.frozen 801
 have HQ := az hQ
 have HD := az hD
 have HO := az hO
 have fin : ∀ w', Dec w' gb d (FP.rst g M).nd (((FP.rst g M).nd : Int) + (FP.ecl ge N : Int) * (-1)) neg false → Only gb w w' → SetPost w0 gb (FP.sds g M) (((FP.rst g M).nd : Int) + (FP.ecl ge N : Int) * (-1)) neg (.returned (.bool true)) w' := by
  intro w' h1 h2
  refine ⟨rfl, ⟨d, ?_, hL⟩, hO.trans h2⟩
  show Dec w' gb d (FP.sds g M).length (((FP.rst g M).nd : Int) + (FP.ecl ge N : Int) * (-1)) neg false
  rw [hsl]
  exact h1
 have FIN := az fin
 obtain ⟨R, hR⟩ : ∃ R, R = SetPost w0 gb (FP.sds g M) (((FP.rst g M).nd : Int) + (FP.ecl ge N : Int) * (-1)) neg := ⟨_, rfl⟩
 rw [← hR] at HQ FIN
 clear hQ hD hO hL fin hok hgd hsl hR
 have b6 := FP.ecl_lt hbd N (Nat.le_refl _)
 have hM800 : st + (M : Int) + 2 ≤ 800 := by omega
 have c1 : decide (st + (M : Int) < (s.size : Int)) = true := dT
 have c2 : decide ((s.size : Int) ≤ st + (M : Int) + 1) = false := dF
 have p0 : (0 ≤ st + (M : Int)) = True := eT
 have q0 : (st + (M : Int) < (s.size : Int)) = True := eT
 have x0 := bt_at s (st + (M : Int))
 have hlow : (Go.bits .or .u8 (bt s (st + (M : Int))) 32 == 101) = true := by rcases he with h | h <;> rw [h] <;> decide
 have p1 : (0 ≤ st + (M : Int) + 1) = True := eT
 have q1 : (st + (M : Int) + 1 < (s.size : Int)) = True := eT
 have x1 := bt_at s (st + (M : Int) + 1)
 have hd0 := hb 0 (by omega)
 have hd1 := hbd 0 (by omega)
 have cend : ((st + (M : Int) + 1 + 1) + (N : Int) != (s.size : Int)) = false := by rw [bne_eq_false_iff_eq]; exact hN
 rw [show (st + (M : Int) + 1 + 1) + ((0 : Nat) : Int) = (st + (M : Int) + 1 + 1) by omega] at hd0
 have s43 : (bt s (st + (M : Int) + 1) == 43) = false := by rw [hs]; decide
 have s45 : (bt s (st + (M : Int) + 1) == 45) = true := by rw [hs]; decide
 have c3 : decide ((s.size : Int) ≤ st + (M : Int) + 1 + 1) = false := dF
 have p2 : (0 ≤ st + (M : Int) + 1 + 1) = True := eT
 have q2 : (st + (M : Int) + 1 + 1 < (s.size : Int)) = True := eT
 have x2 := bt_at s (st + (M : Int) + 1 + 1)
 have l48 : decide (bt s (st + (M : Int) + 1 + 1) < 48) = false := dF
 have l57 : decide (57 < bt s (st + (M : Int) + 1 + 1)) = false := dF
 clear hd0 hd1 hs
 have HN := az hN
 have HB := az hb
 have HBD := az hbd
 have hx0 : 0 ≤ (st + (M : Int) + 1 + 1) := by omega
 clear hb hbd hN he
 clear hM1
 unfold dAt dfr
 rw [hseen, hdd]
 clear hseen hdd
 conv => arg 2; whnf
 go_wp2_with fail
 go_call (lower_calls _ _) as e w1 ⟨rfl, rfl⟩
 go_wp2_with fail
 refine d2_loop s gb (st + (M : Int) + 1 + 1) N ge false true (-1) _ HN.out hsz hx0 HB.out HBD.out ?_ (by kernel_rfl) rfl
 intro u
 unfold dEAt dfr
 simp only [Exit.inBlock, Exit.then, ↓reduceIte]
 go_wp2_with fail
 rw [HQ.out]
 go_returns
 exact FIN.out _ (Dec.cast_dp (((HD.out.set_dp _).set_dp _)) (by omega)) (((Only.refl gb _).set _ _).set _ _)
theorem dtail {x esg : Int} (hsz : (s.size : Int) ≤ 800) (hst0 : 0 ≤ st) (hst1 : st ≤ 1) (hM1 : st + M ≤ (s.size : Int)) (hgd : ∀ j < M, g j = 46 ∨ (48 ≤ g j ∧ g j ≤ 57)) (hseen : (FP.rst g M).seen = true) (hB : st + M = (s.size : Int) ∨ Back s (st + (M : Int)) x esg N ge)
  {w0 w : World} {d : Nat → Nat} (hD : Dec w gb d (FP.rst g M).nd (FP.rst g M).dp neg false) (hL : FP.Lst d (FP.sds g M)) (hO : Only gb w0 w) (x8 x9 : Value) (u : Nat → Value) (Q : Exit → Act → World → Prop) {c : Code} (hc : dTail = c) (R : Ending → World → Prop)
  (hQ : ∀ a w', Q .ret a w' = bodyPost Tryz.prog Tryz.f97 R .ret a w')
  (hR1 : st + M = (s.size : Int) → R = SetPost w0 gb (FP.sds g M) (if (FP.rst g M).dotted then (FP.rst g M).dp else (FP.rst g M).nd) neg)
  (hR2 : Back s (st + (M : Int)) x esg N ge → R = SetPost w0 gb (FP.sds g M) ((if (FP.rst g M).dotted then (FP.rst g M).dp else (FP.rst g M).nd) + (FP.ecl ge N : Int) * esg) neg) :
  Code.wp Tryz.prog c Q (dAt s gb st g M x8 x9 u) w := by
 subst hc
 cases hd : (FP.rst g M).dotted with
 | true =>
  rw [hd] at hR1 hR2
  simp only [if_true] at hR1 hR2
  rcases hB with hB | hB
  ·have e := hR1 hB
   subst e
   exact dt_true_end s gb neg st M g hsz hst0 hst1 hM1 hgd hseen hd hB hD hL hO x8 x9 u Q hQ
  ·have e := hR2 hB
   subst e
   obtain ⟨h1, h2, h3, h4, h5, h6⟩ := hB
   rcases h2 with ⟨rfl, rfl⟩ | ⟨rfl, hs, rfl⟩ | ⟨rfl, hs, rfl⟩
   ·exact dt_true_none s gb neg st M g N ge hsz hst0 hst1 hM1 hgd hseen hd h1 h3 h4 h5 h6 hD hL hO x8 x9 u Q hQ
   ·exact dt_true_plus s gb neg st M g N ge hsz hst0 hst1 hM1 hgd hseen hd h1 hs h3 h4 h5 h6 hD hL hO x8 x9 u Q hQ
   ·exact dt_true_minus s gb neg st M g N ge hsz hst0 hst1 hM1 hgd hseen hd h1 hs h3 h4 h5 h6 hD hL hO x8 x9 u Q hQ
 | false =>
  rw [hd] at hR1 hR2
  simp only [Bool.false_eq_true, if_false] at hR1 hR2
  rcases hB with hB | hB
  ·have e := hR1 hB
   subst e
   exact dt_false_end s gb neg st M g hsz hst0 hst1 hM1 hgd hseen hd hB hD hL hO x8 x9 u Q hQ
  ·have e := hR2 hB
   subst e
   obtain ⟨h1, h2, h3, h4, h5, h6⟩ := hB
   rcases h2 with ⟨rfl, rfl⟩ | ⟨rfl, hs, rfl⟩ | ⟨rfl, hs, rfl⟩
   ·exact dt_false_none s gb neg st M g N ge hsz hst0 hst1 hM1 hgd hseen hd h1 h3 h4 h5 h6 hD hL hO x8 x9 u Q hQ
   ·exact dt_false_plus s gb neg st M g N ge hsz hst0 hst1 hM1 hgd hseen hd h1 hs h3 h4 h5 h6 hD hL hO x8 x9 u Q hQ
   ·exact dt_false_minus s gb neg st M g N ge hsz hst0 hst1 hM1 hgd hseen hd h1 hs h3 h4 h5 h6 hD hL hO x8 x9 u Q hQ
end
theorem set_true (s : ByteArray) (gb : Nat) (M : Nat) (g : Nat → Nat) (N : Nat) (ge : Nat → Nat) {x esg : Int} (h : Front s true 1 M g) (hB : 1 + M = (s.size : Int) ∨ Back s (1 + (M : Int)) x esg N ge) {w : World} {d0 : Nat → Nat} (h0 : Dec w gb d0 0 0 false false)
  (R : Ending → World → Prop) (hR1 : 1 + M = (s.size : Int) → R = SetPost w gb (FP.sds g M) (if (FP.rst g M).dotted then (FP.rst g M).dp else (FP.rst g M).nd) true)
  (hR2 : Back s (1 + (M : Int)) x esg N ge → R = SetPost w gb (FP.sds g M) ((if (FP.rst g M).dotted then (FP.rst g M).dp else (FP.rst g M).nd) + (FP.ecl ge N : Int) * esg) true) :
  Calls Tryz.prog 97 #[.pointer (some ⟨gb, 0, none⟩), .string s] w R := by
 have b0 := bt_0 s
 have hfit := h.fits
 have hone := h.one
 have hsz0 : 0 < s.size := by omega
 have hne : (s = ByteArray.empty) = False := by
  refine eq_false (fun e => ?_)
  rw [e] at hsz0; exact absurd hsz0 (by decide)
 have c0 : decide ((s.size : Int) ≤ 0) = false := dF
 have q0 : (0 < s.size) = True := eq_true hsz0
 have t43 := h.plus
 have t45 : (bt s 0 == 45) = true := h.sgn.symm
 have v2 := h0.cneg
 have v3 := h0.ctr
 have f2 := h0.frozen 802
 have f3 := h0.frozen 803
 have H := az h
 have H0 := az h0
 have HB := az hB
 have HR1 := az hR1
 have HR2 := az hR2
 clear h hB h0 hfit hone hR1 hR2
 go_enter Tryz.func97, Tryz.ntmps97
 go_wp2_with fail
 have O0 : Only gb w (((w.setCell ⟨gb, 802, none⟩ (.bool false)).setCell ⟨gb, 803, none⟩ (.bool false)).setCell ⟨gb, 802, none⟩ (.bool true)) := (((Only.refl gb w).set _ _).set _ _).set _ _
 refine d1_loop s gb true 1 M g H.out.fits H.out.sz (by decide) (by decide) H.out.bytes H.out.kinds H.out.dots H.out.fin (d0 := d0) (((H0.out.set_neg false).set_tr false).set_neg true) ?_ (by kernel_rfl) rfl
 intro x8 x9 u d w2 e1 e2 e3
 simp only [Exit.inBlock, Exit.then, ↓reduceIte]
 go_step
 exact dtail s gb true 1 M g N ge H.out.sz (by decide) (by decide) H.out.fits H.out.kinds H.out.seen HB.out e1 e2 (O0.trans e3) x8 x9 u _ (by kernel_rfl) R (fun a w' => rfl) HR1.out HR2.out
theorem set_false (s : ByteArray) (gb : Nat) (M : Nat) (g : Nat → Nat) (N : Nat) (ge : Nat → Nat) {x esg : Int} (h : Front s false 0 M g) (hB : 0 + M = (s.size : Int) ∨ Back s (0 + (M : Int)) x esg N ge) {w : World} {d0 : Nat → Nat} (h0 : Dec w gb d0 0 0 false false)
  (R : Ending → World → Prop) (hR1 : 0 + M = (s.size : Int) → R = SetPost w gb (FP.sds g M) (if (FP.rst g M).dotted then (FP.rst g M).dp else (FP.rst g M).nd) false)
  (hR2 : Back s (0 + (M : Int)) x esg N ge → R = SetPost w gb (FP.sds g M) ((if (FP.rst g M).dotted then (FP.rst g M).dp else (FP.rst g M).nd) + (FP.ecl ge N : Int) * esg) false) :
  Calls Tryz.prog 97 #[.pointer (some ⟨gb, 0, none⟩), .string s] w R := by
 have b0 := bt_0 s
 have hfit := h.fits
 have hone := h.one
 have hsz0 : 0 < s.size := by omega
 have hne : (s = ByteArray.empty) = False := by
  refine eq_false (fun e => ?_)
  rw [e] at hsz0; exact absurd hsz0 (by decide)
 have c0 : decide ((s.size : Int) ≤ 0) = false := dF
 have q0 : (0 < s.size) = True := eq_true hsz0
 have t43 := h.plus
 have t45 : (bt s 0 == 45) = false := h.sgn.symm
 have v2 := h0.cneg
 have v3 := h0.ctr
 have f2 := h0.frozen 802
 have f3 := h0.frozen 803
 have H := az h
 have H0 := az h0
 have HB := az hB
 have HR1 := az hR1
 have HR2 := az hR2
 clear h hB h0 hfit hone hR1 hR2
 go_enter Tryz.func97, Tryz.ntmps97
 go_wp2_with fail
 have O0 : Only gb w ((w.setCell ⟨gb, 802, none⟩ (.bool false)).setCell ⟨gb, 803, none⟩ (.bool false)) := ((Only.refl gb w).set _ _).set _ _
 refine d1_loop s gb false 0 M g H.out.fits H.out.sz (by decide) (by decide) H.out.bytes H.out.kinds H.out.dots H.out.fin (d0 := d0) ((H0.out.set_neg false).set_tr false) ?_ (by kernel_rfl) rfl
 intro x8 x9 u d w2 e1 e2 e3
 simp only [Exit.inBlock, Exit.then, ↓reduceIte]
 go_step
 exact dtail s gb false 0 M g N ge H.out.sz (by decide) (by decide) H.out.fits H.out.kinds H.out.seen HB.out e1 e2 (O0.trans e3) x8 x9 u _ (by kernel_rfl) R (fun a w' => rfl) HR1.out HR2.out
end Go.Proofs.YtbimfhaokgigkaaGreatDoor
