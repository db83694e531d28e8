/- Walks of functions of FnJpGetFloat (A8, A9, A10); conditions stand ahead of each theorem. -/
import Derived.Test.YtbimfhaokgigkaaGreatDoorT07
set_option linter.unusedVariables false
set_option linter.unusedSimpArgs false
set_option maxRecDepth 1000000
set_option maxHeartbeats 4000000
namespace Go.Proofs.YtbimfhaokgigkaaGreatDoor
open Go.RowKit Go.Proofs.YtbimfhaokgigkaaGreatDoorW.PrintWords Go.Proofs.YtbimfhaokgigkaaGreatDoorW.PrintLast
noncomputable def readBody2 : Code := loopOf Tryz.f91 1
section
variable (s : ByteArray) (wc : World) (neg : Bool) (x : Int) (N : Nat) (g : Nat → Nat) (r : FP.RSt) (D esg : Int)
def eAt (k : Nat) (u : Nat → Value) : Act :=
 ⟨rfr (.string s) (.int .u64 (r.mant : Int)) (.int .i64 0) (.bool neg) (.bool r.tr) (.bool false) (.int .i64 (x + k)) (.bool false) (.bool false) (.int .u64 10) (.int .i64 19) (.int .u8 101)
  (.bool r.dotted) (.bool r.seen) (.int .i64 (r.nd : Int)) (.int .i64 (r.nm : Int)) (.int .i64 D) (.int .i64 esg) (.int .i64 (FP.ecl g k : Int)) u, []⟩
def eMu (a : Act) (w : World) : Nat := (x + N - intOf (a.tmps.getD 7 undef)).toNat
def EInv (a : Act) (w : World) : Prop := ∃ u k, k ≤ N ∧ a = eAt s neg x g r D esg k u ∧ w = wc
theorem eMu_at (k : Nat) (u : Nat → Value) (w : World) : eMu x N (eAt s neg x g r D esg k u) w = N - k := by
 show (x + N - (x + k)).toNat = N - k
 omega
theorem enext {a : Act} {w : World} {k : Nat} {u : Nat → Value} (hk : k < N) (h : a = eAt s neg x g r D esg (k + 1) (fun n => a.tmps.getD n undef)) (hw : w = wc) :
  EInv s wc neg x N g r D esg a w ∧ eMu x N a w < eMu x N (eAt s neg x g r D esg k u) wc := by
 refine ⟨⟨_, k + 1, hk, h, hw⟩, ?_⟩
 rw [h, eMu_at, eMu_at]
 omega
theorem eexit {Q : Exit → Act → World → Prop} (hexit : ∀ u, Q (.exit 5) (eAt s neg x g r D esg N u) wc) {a : Act} {w : World}
  (h : a = eAt s neg x g r D esg N (fun n => a.tmps.getD n undef)) (hw : w = wc) : Q (.exit 5) a w := by
 rw [hw, h]; exact hexit _
theorem eround_small (hN : x + N ≤ (s.size : Int)) (hsz : (s.size : Int) ≤ 800) (hx0 : 0 ≤ x) (hg : ∀ k < N, bt s (x + k) = (g k : Int)) (hgd : ∀ k < N, 48 ≤ g k ∧ g k ≤ 57) (k : Nat) (hk : k < N) (h : FP.ecl g k < 10000)
  (u : Nat → Value) (Q : Exit → Act → World → Prop) :
  Code.wp Tryz.prog readBody2 (Exit.then (fun a' w' => EInv s wc neg x N g r D esg a' w' ∧ eMu x N a' w' < eMu x N (eAt s neg x g r D esg k u) wc) Q) (eAt s neg x g r D esg k u) wc := by
 have hb := hg k hk
 have hd := hgd k hk
 have b1 := FP.ecl_lt hgd k (Nat.le_of_lt hk)
 have hr : FP.ecl g (k + 1) = FP.ecl g k * 10 + (g k - 48) := by
  show (if FP.ecl g k < 10000 then FP.ecl g k * 10 + (g k - 48) else FP.ecl g k) = _
  rw [if_pos h]
 have p5 : (0 ≤ x + (k : Int)) = True := eT
 have q5 : (x + (k : Int) < (s.size : Int)) = True := eT
 have hx5 := bt_at s (x + k)
 rw [hb] at hx5
 have u95 : (((g k : Nat) : Int) == 95) = false := bF
 have t48 : decide (48 ≤ ((g k : Nat) : Int)) = true := dT
 have t57 : decide (((g k : Nat) : Int) ≤ 57) = true := dT
 have te : decide ((FP.ecl g k : Int) < 10000) = true := dT
 have hi : x + ((k + 1 : Nat) : Int) = x + (k : Int) + 1 := by omega
 have WZ := az (show (FP.ecl g k : Int) * 10 + ((g k : Nat) : Int) - 48 = ((FP.ecl g k * 10 + (g k - 48) : Nat) : Int) by omega)
 have HR := az hr
 have HI := az hi
 have HM := az hk
 have hj800 : x + (k : Int) ≤ 800 := by omega
 clear hr hi hN hg hgd hb
 generalize hI : (fun a' w' => EInv s wc neg x N g r D esg a' w' ∧ eMu x N a' w' < eMu x N (eAt s neg x g r D esg k u) wc) = I
 unfold eAt rfr
 conv => arg 2; whnf
 go_wp2_with fail
 subst hI
 refine enext s wc neg x N g r D esg HM.out ?_ rfl
 unfold eAt
 rw [HR.out, HI.out]
 rw [WZ.out]
 rfl
theorem eround_big (hN : x + N ≤ (s.size : Int)) (hsz : (s.size : Int) ≤ 800) (hx0 : 0 ≤ x) (hg : ∀ k < N, bt s (x + k) = (g k : Int)) (hgd : ∀ k < N, 48 ≤ g k ∧ g k ≤ 57) (k : Nat) (hk : k < N) (h : ¬ FP.ecl g k < 10000)
  (u : Nat → Value) (Q : Exit → Act → World → Prop) :
  Code.wp Tryz.prog readBody2 (Exit.then (fun a' w' => EInv s wc neg x N g r D esg a' w' ∧ eMu x N a' w' < eMu x N (eAt s neg x g r D esg k u) wc) Q) (eAt s neg x g r D esg k u) wc := by
 have hb := hg k hk
 have hd := hgd k hk
 have b1 := FP.ecl_lt hgd k (Nat.le_of_lt hk)
 have hr : FP.ecl g (k + 1) = FP.ecl g k := by
  show (if FP.ecl g k < 10000 then FP.ecl g k * 10 + (g k - 48) else FP.ecl g k) = _
  rw [if_neg h]
 have p5 : (0 ≤ x + (k : Int)) = True := eT
 have q5 : (x + (k : Int) < (s.size : Int)) = True := eT
 have hx5 := bt_at s (x + k)
 rw [hb] at hx5
 have u95 : (((g k : Nat) : Int) == 95) = false := bF
 have t48 : decide (48 ≤ ((g k : Nat) : Int)) = true := dT
 have t57 : decide (((g k : Nat) : Int) ≤ 57) = true := dT
 have te : decide ((FP.ecl g k : Int) < 10000) = false := dF
 have hi : x + ((k + 1 : Nat) : Int) = x + (k : Int) + 1 := by omega
 have WZ := az (show (FP.ecl g k : Int) * 10 + ((g k : Nat) : Int) - 48 = ((FP.ecl g k * 10 + (g k - 48) : Nat) : Int) by omega)
 have HR := az hr
 have HI := az hi
 have HM := az hk
 have hj800 : x + (k : Int) ≤ 800 := by omega
 clear hr hi hN hg hgd hb
 generalize hI : (fun a' w' => EInv s wc neg x N g r D esg a' w' ∧ eMu x N a' w' < eMu x N (eAt s neg x g r D esg k u) wc) = I
 unfold eAt rfr
 conv => arg 2; whnf
 go_wp2_with fail
 subst hI
 refine enext s wc neg x N g r D esg HM.out ?_ rfl
 unfold eAt
 rw [HR.out, HI.out]
 rfl
theorem eout (he : x + N = (s.size : Int)) (hsz : (s.size : Int) ≤ 800) (hx0 : 0 ≤ x) (u : Nat → Value) (I : Act → World → Prop) (Q : Exit → Act → World → Prop)
  (hexit : ∀ u, Q (.exit 5) (eAt s neg x g r D esg N u) wc) : Code.wp Tryz.prog readBody2 (Exit.then I Q) (eAt s neg x g r D esg N u) wc := by
 have c1 : decide (x + (N : Int) < (s.size : Int)) = false := dF
 clear he
 have HX := az hexit
 clear hexit
 unfold eAt rfr
 conv => arg 2; whnf
 go_wp2_with fail
 refine eexit s wc neg x N g r D esg HX.out ?_ rfl
 rfl
theorem eloop (hN : x + N = (s.size : Int)) (hsz : (s.size : Int) ≤ 800) (hx0 : 0 ≤ x) (hg : ∀ k < N, bt s (x + k) = (g k : Int)) (hgd : ∀ k < N, 48 ≤ g k ∧ g k ≤ 57)
  (Q : Exit → Act → World → Prop) (hexit : ∀ u, Q (.exit 5) (eAt s neg x g r D esg N u) wc) (u : Nat → Value) :
  Code.wp Tryz.prog (.loop readBody2) Q (eAt s neg x g r D esg 0 u) wc := by
 refine wp_loop (EInv s wc neg x N g r D esg) (eMu x N) ⟨u, 0, Nat.zero_le _, rfl, rfl⟩ ?_
 rintro a w ⟨v, k, hk, rfl, rfl⟩
 by_cases hlt : k < N
 ·by_cases h : FP.ecl g k < 10000
  ·exact eround_small s w neg x N g r D esg (by omega) hsz hx0 hg hgd k hlt h v Q
  ·exact eround_big s w neg x N g r D esg (by omega) hsz hx0 hg hgd k hlt h v Q
 ·obtain rfl : k = N := by omega
  exact eout s w neg x k g r D esg hN hsz hx0 v _ Q hexit
end
def behind (n : Nat) : Code → Option Code
 | .seq (.block m _) b => if m = n then some b else behind n b
 | .seq _ b => behind n b
 | .scope c => behind n c
 | _ => none
noncomputable def readTail : Code := (Tryz.f91.body.bind (behind 1)).getD .skip
theorem bt_0 (s : ByteArray) : ∀ h : 0 < s.size, ((s[0]'h).toNat : Int) = bt s 0 := bt_at s 0
theorem bt_1 (s : ByteArray) : ∀ h : 1 < s.size, ((s[1]'h).toNat : Int) = bt s 1 := bt_at s 1
theorem bt_2 (s : ByteArray) : ∀ h : 2 < s.size, ((s[2]'h).toNat : Int) = bt s 2 := bt_at s 2
section
variable (s : ByteArray) (w : World) (neg : Bool) (st : Int) (M : Nat) (g : Nat → Nat)
theorem rloop_at (hM : st + M ≤ (s.size : Int)) (hsz : (s.size : Int) ≤ 800) (hst0 : 0 ≤ st) (hst1 : st ≤ 1) (hg : ∀ j < M, bt s (st + j) = (g j : Int)) (hgd : ∀ j < M, g j = 46 ∨ (48 ≤ g j ∧ g j ≤ 57))
  (hdot : ∀ j < M, g j = 46 → (FP.rst g j).dotted = false) (hend : st + M = (s.size : Int) ∨ (st + M < (s.size : Int) ∧ (bt s (st + M) = 69 ∨ bt s (st + M) = 101)))
  {c : Code} {a : Act} {Q : Exit → Act → World → Prop} (hexit : ∀ x19 x20 u, Q (.exit 1) (rAt s neg st g M x19 x20 u) w)
  (hc : readBody1 = c) (ha : a = ⟨rfr (.string s) (.int .u64 0) (.int .i64 0) (.bool neg) (.bool false) (.bool false) (.int .i64 st) (.bool false) (.bool false) (.int .u64 10) (.int .i64 19) (.int .u8 101)
   (.bool false) (.bool false) (.int .i64 0) (.int .i64 0) (.int .i64 0) (a.tmps.getD 19 undef) (a.tmps.getD 20 undef) (fun n => a.tmps.getD n undef), []⟩) :
  Code.wp Tryz.prog (.loop c) Q a w := by
 have := rloop s w neg st M g hM hsz hst0 hst1 hg hgd hdot hend Q hexit (a.tmps.getD 19 undef) (a.tmps.getD 20 undef) (fun n => a.tmps.getD n undef)
 unfold rAt at this
 rw [show st + ((0 : Nat) : Int) = st by omega] at this
 rw [← hc, ha]
 exact this
def RPlain (neg : Bool) (st : Int) (M : Nat) (r : FP.RSt) : Value := .tuple #[.int .u64 (r.mant : Int), .int .i64 (if r.mant = 0 then 0 else (if r.dotted then r.dp else r.nd) - r.nm), .bool neg, .bool r.tr, .bool false, .int .i64 (st + M), .bool true]
theorem rtail_true_0 (hsz : (s.size : Int) ≤ 800) (hst0 : 0 ≤ st) (hst1 : st ≤ 1) (hM : st + M = (s.size : Int)) (hgd : ∀ j < M, g j = 46 ∨ (48 ≤ g j ∧ g j ≤ 57)) (hseen : (FP.rst g M).seen = true) (hdd : (FP.rst g M).dotted = true)
  (hm0 : (FP.rst g M).mant = 0) (x19 x20 : Value) (u : Nat → Value) (Q : Exit → Act → World → Prop) (hQ : ∀ a w', Q .ret a w' = bodyPost Tryz.prog Tryz.f91 (fun e w' => e = .returned (RPlain neg st M (FP.rst g M)) ∧ w' = w) .ret a w') :
  Code.wp Tryz.prog readTail Q (rAt s neg st g M x19 x20 u) w := by
 have hok := FP.rst_ok hgd M (Nat.le_refl _)
 have b1 := hok.nd
 have b2 : (FP.rst g M).nm ≤ 19 := by have := hok.nm; omega
 have b4 := hok.lo
 have b5 := hok.hi
 have c1 : decide (st + (M : Int) < (s.size : Int)) = false := dF
 have hM800 : (M : Int) ≤ 800 := by omega
 have HQ := az hQ
 have HZ := az hm0
 have HD := az hdd
 clear hok hM hgd hQ
 have e0 : (((FP.rst g M).mant : Int) != 0) = false := by rw [bne_eq_false_iff_eq]; omega
 clear hm0
 unfold rAt rfr
 rw [hseen, hdd]
 conv => arg 2; whnf
 go_wp2_with fail
 rw [HQ.out]
 go_returns
 refine ⟨?_, rfl⟩
 unfold RPlain
 rw [if_pos HZ.out]
theorem rtail_true_1 (hsz : (s.size : Int) ≤ 800) (hst0 : 0 ≤ st) (hst1 : st ≤ 1) (hM : st + M = (s.size : Int)) (hgd : ∀ j < M, g j = 46 ∨ (48 ≤ g j ∧ g j ≤ 57)) (hseen : (FP.rst g M).seen = true) (hdd : (FP.rst g M).dotted = true)
  (hm0 : (FP.rst g M).mant ≠ 0) (x19 x20 : Value) (u : Nat → Value) (Q : Exit → Act → World → Prop) (hQ : ∀ a w', Q .ret a w' = bodyPost Tryz.prog Tryz.f91 (fun e w' => e = .returned (RPlain neg st M (FP.rst g M)) ∧ w' = w) .ret a w') :
  Code.wp Tryz.prog readTail Q (rAt s neg st g M x19 x20 u) w := by
 have hok := FP.rst_ok hgd M (Nat.le_refl _)
 have b1 := hok.nd
 have b2 : (FP.rst g M).nm ≤ 19 := by have := hok.nm; omega
 have b4 := hok.lo
 have b5 := hok.hi
 have c1 : decide (st + (M : Int) < (s.size : Int)) = false := dF
 have hM800 : (M : Int) ≤ 800 := by omega
 have HQ := az hQ
 have HZ := az hm0
 have HD := az hdd
 clear hok hM hgd hQ
 have e0 : (((FP.rst g M).mant : Int) != 0) = true := nT
 clear hm0
 unfold rAt rfr
 rw [hseen, hdd]
 conv => arg 2; whnf
 go_wp2_with fail
 rw [HQ.out]
 go_returns
 refine ⟨?_, rfl⟩
 unfold RPlain
 rw [if_neg HZ.out, HD.out]
 rfl
theorem rtail_false_0 (hsz : (s.size : Int) ≤ 800) (hst0 : 0 ≤ st) (hst1 : st ≤ 1) (hM : st + M = (s.size : Int)) (hgd : ∀ j < M, g j = 46 ∨ (48 ≤ g j ∧ g j ≤ 57)) (hseen : (FP.rst g M).seen = true) (hdd : (FP.rst g M).dotted = false)
  (hm0 : (FP.rst g M).mant = 0) (x19 x20 : Value) (u : Nat → Value) (Q : Exit → Act → World → Prop) (hQ : ∀ a w', Q .ret a w' = bodyPost Tryz.prog Tryz.f91 (fun e w' => e = .returned (RPlain neg st M (FP.rst g M)) ∧ w' = w) .ret a w') :
  Code.wp Tryz.prog readTail Q (rAt s neg st g M x19 x20 u) w := by
 have hok := FP.rst_ok hgd M (Nat.le_refl _)
 have b1 := hok.nd
 have b2 : (FP.rst g M).nm ≤ 19 := by have := hok.nm; omega
 have b4 := hok.lo
 have b5 := hok.hi
 have c1 : decide (st + (M : Int) < (s.size : Int)) = false := dF
 have hM800 : (M : Int) ≤ 800 := by omega
 have HQ := az hQ
 have HZ := az hm0
 have HD := az hdd
 clear hok hM hgd hQ
 have e0 : (((FP.rst g M).mant : Int) != 0) = false := by rw [bne_eq_false_iff_eq]; omega
 clear hm0
 unfold rAt rfr
 rw [hseen, hdd]
 conv => arg 2; whnf
 go_wp2_with fail
 rw [HQ.out]
 go_returns
 refine ⟨?_, rfl⟩
 unfold RPlain
 rw [if_pos HZ.out]
theorem rtail_false_1 (hsz : (s.size : Int) ≤ 800) (hst0 : 0 ≤ st) (hst1 : st ≤ 1) (hM : st + M = (s.size : Int)) (hgd : ∀ j < M, g j = 46 ∨ (48 ≤ g j ∧ g j ≤ 57)) (hseen : (FP.rst g M).seen = true) (hdd : (FP.rst g M).dotted = false)
  (hm0 : (FP.rst g M).mant ≠ 0) (x19 x20 : Value) (u : Nat → Value) (Q : Exit → Act → World → Prop) (hQ : ∀ a w', Q .ret a w' = bodyPost Tryz.prog Tryz.f91 (fun e w' => e = .returned (RPlain neg st M (FP.rst g M)) ∧ w' = w) .ret a w') :
  Code.wp Tryz.prog readTail Q (rAt s neg st g M x19 x20 u) w := by
 have hok := FP.rst_ok hgd M (Nat.le_refl _)
 have b1 := hok.nd
 have b2 : (FP.rst g M).nm ≤ 19 := by have := hok.nm; omega
 have b4 := hok.lo
 have b5 := hok.hi
 have c1 : decide (st + (M : Int) < (s.size : Int)) = false := dF
 have hM800 : (M : Int) ≤ 800 := by omega
 have HQ := az hQ
 have HZ := az hm0
 have HD := az hdd
 clear hok hM hgd hQ
 have e0 : (((FP.rst g M).mant : Int) != 0) = true := nT
 clear hm0
 unfold rAt rfr
 rw [hseen, hdd]
 conv => arg 2; whnf
 go_wp2_with fail
 rw [HQ.out]
 go_returns
 refine ⟨?_, rfl⟩
 unfold RPlain
 rw [if_neg HZ.out, HD.out]
 rfl
theorem rtail (hsz : (s.size : Int) ≤ 800) (hst0 : 0 ≤ st) (hst1 : st ≤ 1) (hM : st + M = (s.size : Int)) (hgd : ∀ j < M, g j = 46 ∨ (48 ≤ g j ∧ g j ≤ 57)) (hseen : (FP.rst g M).seen = true)
  {c : Code} (hc : readTail = c) (x19 x20 : Value) (u : Nat → Value) (Q : Exit → Act → World → Prop) (hQ : ∀ a w', Q .ret a w' = bodyPost Tryz.prog Tryz.f91 (fun e w' => e = .returned (RPlain neg st M (FP.rst g M)) ∧ w' = w) .ret a w') :
  Code.wp Tryz.prog c Q (rAt s neg st g M x19 x20 u) w := by
 subst hc
 cases hd : (FP.rst g M).dotted with
 | true =>
  by_cases h : (FP.rst g M).mant = 0
  ·exact rtail_true_0 s w neg st M g hsz hst0 hst1 hM hgd hseen hd h x19 x20 u Q hQ
  ·exact rtail_true_1 s w neg st M g hsz hst0 hst1 hM hgd hseen hd h x19 x20 u Q hQ
 | false =>
  by_cases h : (FP.rst g M).mant = 0
  ·exact rtail_false_0 s w neg st M g hsz hst0 hst1 hM hgd hseen hd h x19 x20 u Q hQ
  ·exact rtail_false_1 s w neg st M g hsz hst0 hst1 hM hgd hseen hd h x19 x20 u Q hQ
theorem rpre_true_short (h0 : 1 < (s.size : Int)) (t43 : (bt s 0 == 43) = false) (t45 : (bt s 0 == 45) = true) (c1 : decide (3 < (s.size : Int)) = false) (R : Ending → World → Prop)
  (hL : ∀ (Q : Exit → Act → World → Prop) (a : Act), a = ⟨rfr (.string s) (.int .u64 0) (.int .i64 0) (.bool true) (.bool false) (.bool false) (.int .i64 1) (.bool false) (.bool false) (.int .u64 10) (.int .i64 19) (.int .u8 101)
   (.bool false) (.bool false) (.int .i64 0) (.int .i64 0) (.int .i64 0) (a.tmps.getD 19 undef) (a.tmps.getD 20 undef) (fun n => a.tmps.getD n undef), []⟩ →
   (∀ x19 x20 u M, (∀ Q', (∀ a w', Q' .ret a w' = bodyPost Tryz.prog Tryz.f91 R .ret a w') → Code.wp Tryz.prog readTail Q' (rAt s true (1 : Int) g M x19 x20 u) w) → Q (.exit 1) (rAt s true (1 : Int) g M x19 x20 u) w) → Code.wp Tryz.prog (.loop readBody1) Q a w) :
  Calls Tryz.prog 91 #[.string s] w R := by
 have hne : (s = ByteArray.empty) = False := by
  refine eq_false (fun e => ?_)
  rw [e] at h0; exact absurd h0 (by decide)
 have HL := az hL
 clear hL
 have b0 := bt_0 s
 have b1 := bt_1 s
 have b2 := bt_2 s
 go_enter Tryz.func91, Tryz.ntmps91
 go_wp2_with fail
 go_step3
 go_wp2_with fail
 go_step3
 go_wp2_with fail
 have hc : readBody1 = _ := rfl
 refine (show Code.wp Tryz.prog (.loop readBody1) _ _ _ from HL.out _ _ rfl ?_)
 intro x19 x20 u M hT
 simp only [Exit.inBlock, Exit.then, ↓reduceIte]
 go_step
 exact hT _ (fun a w' => rfl)
theorem rpre_true_other (h0 : 1 < (s.size : Int)) (t43 : (bt s 0 == 43) = false) (t45 : (bt s 0 == 45) = true) (c1 : decide (3 < (s.size : Int)) = true) (c2 : (bt s 1 == 48) = false) (R : Ending → World → Prop)
  (hL : ∀ (Q : Exit → Act → World → Prop) (a : Act), a = ⟨rfr (.string s) (.int .u64 0) (.int .i64 0) (.bool true) (.bool false) (.bool false) (.int .i64 1) (.bool false) (.bool false) (.int .u64 10) (.int .i64 19) (.int .u8 101)
   (.bool false) (.bool false) (.int .i64 0) (.int .i64 0) (.int .i64 0) (a.tmps.getD 19 undef) (a.tmps.getD 20 undef) (fun n => a.tmps.getD n undef), []⟩ →
   (∀ x19 x20 u M, (∀ Q', (∀ a w', Q' .ret a w' = bodyPost Tryz.prog Tryz.f91 R .ret a w') → Code.wp Tryz.prog readTail Q' (rAt s true (1 : Int) g M x19 x20 u) w) → Q (.exit 1) (rAt s true (1 : Int) g M x19 x20 u) w) → Code.wp Tryz.prog (.loop readBody1) Q a w) :
  Calls Tryz.prog 91 #[.string s] w R := by
 have hne : (s = ByteArray.empty) = False := by
  refine eq_false (fun e => ?_)
  rw [e] at h0; exact absurd h0 (by decide)
 have HL := az hL
 clear hL
 have c1q := c1
 rw [decide_eq_true_eq] at c1q
 have q1 : (2 < (s.size : Int)) = True := eT
 have q0 : (1 < (s.size : Int)) = True := eq_true h0
 have b0 := bt_0 s
 have b1 := bt_1 s
 have b2 := bt_2 s
 go_enter Tryz.func91, Tryz.ntmps91
 go_wp2_with fail
 go_step3
 go_wp2_with fail
 go_step3
 go_wp2_with fail
 have hc : readBody1 = _ := rfl
 refine (show Code.wp Tryz.prog (.loop readBody1) _ _ _ from HL.out _ _ rfl ?_)
 intro x19 x20 u M hT
 simp only [Exit.inBlock, Exit.then, ↓reduceIte]
 go_step
 exact hT _ (fun a w' => rfl)
theorem rpre_true_lower (h0 : 1 < (s.size : Int)) (t43 : (bt s 0 == 43) = false) (t45 : (bt s 0 == 45) = true) (c1 : decide (3 < (s.size : Int)) = true) (c2 : (bt s 1 == 48) = true) (c3 : (Go.bits .or .u8 (bt s 2) 32 == 120) = false) (R : Ending → World → Prop)
  (hL : ∀ (Q : Exit → Act → World → Prop) (a : Act), a = ⟨rfr (.string s) (.int .u64 0) (.int .i64 0) (.bool true) (.bool false) (.bool false) (.int .i64 1) (.bool false) (.bool false) (.int .u64 10) (.int .i64 19) (.int .u8 101)
   (.bool false) (.bool false) (.int .i64 0) (.int .i64 0) (.int .i64 0) (a.tmps.getD 19 undef) (a.tmps.getD 20 undef) (fun n => a.tmps.getD n undef), []⟩ →
   (∀ x19 x20 u M, (∀ Q', (∀ a w', Q' .ret a w' = bodyPost Tryz.prog Tryz.f91 R .ret a w') → Code.wp Tryz.prog readTail Q' (rAt s true (1 : Int) g M x19 x20 u) w) → Q (.exit 1) (rAt s true (1 : Int) g M x19 x20 u) w) → Code.wp Tryz.prog (.loop readBody1) Q a w) :
  Calls Tryz.prog 91 #[.string s] w R := by
 have hne : (s = ByteArray.empty) = False := by
  refine eq_false (fun e => ?_)
  rw [e] at h0; exact absurd h0 (by decide)
 have HL := az hL
 clear hL
 have c1q := c1
 rw [decide_eq_true_eq] at c1q
 have q1 : (2 < (s.size : Int)) = True := eT
 have q0 : (1 < (s.size : Int)) = True := eq_true h0
 have b0 := bt_0 s
 have b1 := bt_1 s
 have b2 := bt_2 s
 go_enter Tryz.func91, Tryz.ntmps91
 go_wp2_with fail
 go_step3
 go_wp2_with fail
 go_call (lower_calls _ _) as e w1 ⟨rfl, rfl⟩
 go_wp2_with fail
 go_step3
 go_wp2_with fail
 have hc : readBody1 = _ := rfl
 refine (show Code.wp Tryz.prog (.loop readBody1) _ _ _ from HL.out _ _ rfl ?_)
 intro x19 x20 u M hT
 simp only [Exit.inBlock, Exit.then, ↓reduceIte]
 go_step
 exact hT _ (fun a w' => rfl)
theorem rpre_false_short (h0 : 0 < (s.size : Int)) (t43 : (bt s 0 == 43) = false) (t45 : (bt s 0 == 45) = false) (c1 : decide (2 < (s.size : Int)) = false) (R : Ending → World → Prop)
  (hL : ∀ (Q : Exit → Act → World → Prop) (a : Act), a = ⟨rfr (.string s) (.int .u64 0) (.int .i64 0) (.bool false) (.bool false) (.bool false) (.int .i64 0) (.bool false) (.bool false) (.int .u64 10) (.int .i64 19) (.int .u8 101)
   (.bool false) (.bool false) (.int .i64 0) (.int .i64 0) (.int .i64 0) (a.tmps.getD 19 undef) (a.tmps.getD 20 undef) (fun n => a.tmps.getD n undef), []⟩ →
   (∀ x19 x20 u M, (∀ Q', (∀ a w', Q' .ret a w' = bodyPost Tryz.prog Tryz.f91 R .ret a w') → Code.wp Tryz.prog readTail Q' (rAt s false (0 : Int) g M x19 x20 u) w) → Q (.exit 1) (rAt s false (0 : Int) g M x19 x20 u) w) → Code.wp Tryz.prog (.loop readBody1) Q a w) :
  Calls Tryz.prog 91 #[.string s] w R := by
 have hne : (s = ByteArray.empty) = False := by
  refine eq_false (fun e => ?_)
  rw [e] at h0; exact absurd h0 (by decide)
 have HL := az hL
 clear hL
 have b0 := bt_0 s
 have b1 := bt_1 s
 have b2 := bt_2 s
 go_enter Tryz.func91, Tryz.ntmps91
 go_wp2_with fail
 go_step3
 go_wp2_with fail
 go_step3
 go_wp2_with fail
 have hc : readBody1 = _ := rfl
 refine (show Code.wp Tryz.prog (.loop readBody1) _ _ _ from HL.out _ _ rfl ?_)
 intro x19 x20 u M hT
 simp only [Exit.inBlock, Exit.then, ↓reduceIte]
 go_step
 exact hT _ (fun a w' => rfl)
theorem rpre_false_other (h0 : 0 < (s.size : Int)) (t43 : (bt s 0 == 43) = false) (t45 : (bt s 0 == 45) = false) (c1 : decide (2 < (s.size : Int)) = true) (c2 : (bt s 0 == 48) = false) (R : Ending → World → Prop)
  (hL : ∀ (Q : Exit → Act → World → Prop) (a : Act), a = ⟨rfr (.string s) (.int .u64 0) (.int .i64 0) (.bool false) (.bool false) (.bool false) (.int .i64 0) (.bool false) (.bool false) (.int .u64 10) (.int .i64 19) (.int .u8 101)
   (.bool false) (.bool false) (.int .i64 0) (.int .i64 0) (.int .i64 0) (a.tmps.getD 19 undef) (a.tmps.getD 20 undef) (fun n => a.tmps.getD n undef), []⟩ →
   (∀ x19 x20 u M, (∀ Q', (∀ a w', Q' .ret a w' = bodyPost Tryz.prog Tryz.f91 R .ret a w') → Code.wp Tryz.prog readTail Q' (rAt s false (0 : Int) g M x19 x20 u) w) → Q (.exit 1) (rAt s false (0 : Int) g M x19 x20 u) w) → Code.wp Tryz.prog (.loop readBody1) Q a w) :
  Calls Tryz.prog 91 #[.string s] w R := by
 have hne : (s = ByteArray.empty) = False := by
  refine eq_false (fun e => ?_)
  rw [e] at h0; exact absurd h0 (by decide)
 have HL := az hL
 clear hL
 have c1q := c1
 rw [decide_eq_true_eq] at c1q
 have q1 : (1 < (s.size : Int)) = True := eT
 have q0 : (0 < (s.size : Int)) = True := eq_true h0
 have b0 := bt_0 s
 have b1 := bt_1 s
 have b2 := bt_2 s
 go_enter Tryz.func91, Tryz.ntmps91
 go_wp2_with fail
 go_step3
 go_wp2_with fail
 go_step3
 go_wp2_with fail
 have hc : readBody1 = _ := rfl
 refine (show Code.wp Tryz.prog (.loop readBody1) _ _ _ from HL.out _ _ rfl ?_)
 intro x19 x20 u M hT
 simp only [Exit.inBlock, Exit.then, ↓reduceIte]
 go_step
 exact hT _ (fun a w' => rfl)
theorem rpre_false_lower (h0 : 0 < (s.size : Int)) (t43 : (bt s 0 == 43) = false) (t45 : (bt s 0 == 45) = false) (c1 : decide (2 < (s.size : Int)) = true) (c2 : (bt s 0 == 48) = true) (c3 : (Go.bits .or .u8 (bt s 1) 32 == 120) = false) (R : Ending → World → Prop)
  (hL : ∀ (Q : Exit → Act → World → Prop) (a : Act), a = ⟨rfr (.string s) (.int .u64 0) (.int .i64 0) (.bool false) (.bool false) (.bool false) (.int .i64 0) (.bool false) (.bool false) (.int .u64 10) (.int .i64 19) (.int .u8 101)
   (.bool false) (.bool false) (.int .i64 0) (.int .i64 0) (.int .i64 0) (a.tmps.getD 19 undef) (a.tmps.getD 20 undef) (fun n => a.tmps.getD n undef), []⟩ →
   (∀ x19 x20 u M, (∀ Q', (∀ a w', Q' .ret a w' = bodyPost Tryz.prog Tryz.f91 R .ret a w') → Code.wp Tryz.prog readTail Q' (rAt s false (0 : Int) g M x19 x20 u) w) → Q (.exit 1) (rAt s false (0 : Int) g M x19 x20 u) w) → Code.wp Tryz.prog (.loop readBody1) Q a w) :
  Calls Tryz.prog 91 #[.string s] w R := by
 have hne : (s = ByteArray.empty) = False := by
  refine eq_false (fun e => ?_)
  rw [e] at h0; exact absurd h0 (by decide)
 have HL := az hL
 clear hL
 have c1q := c1
 rw [decide_eq_true_eq] at c1q
 have q1 : (1 < (s.size : Int)) = True := eT
 have q0 : (0 < (s.size : Int)) = True := eq_true h0
 have b0 := bt_0 s
 have b1 := bt_1 s
 have b2 := bt_2 s
 go_enter Tryz.func91, Tryz.ntmps91
 go_wp2_with fail
 go_step3
 go_wp2_with fail
 go_call (lower_calls _ _) as e w1 ⟨rfl, rfl⟩
 go_wp2_with fail
 go_step3
 go_wp2_with fail
 have hc : readBody1 = _ := rfl
 refine (show Code.wp Tryz.prog (.loop readBody1) _ _ _ from HL.out _ _ rfl ?_)
 intro x19 x20 u M hT
 simp only [Exit.inBlock, Exit.then, ↓reduceIte]
 go_step
 exact hT _ (fun a w' => rfl)
end
structure Front (s : ByteArray) (neg : Bool) (st : Int) (M : Nat) (g : Nat → Nat) : Prop where
 sz : (s.size : Int) ≤ 800
 sgn : neg = (bt s 0 == 45)
 start : st = if neg then 1 else 0
 plus : (bt s 0 == 43) = false
 one : 1 ≤ M
 fits : st + M ≤ (s.size : Int)
 bytes : ∀ j < M, bt s (st + j) = (g j : Int)
 kinds : ∀ j < M, g j = 46 ∨ (48 ≤ g j ∧ g j ≤ 57)
 dots : ∀ j < M, g j = 46 → (FP.rst g j).dotted = false
 seen : (FP.rst g M).seen = true
 fin : st + M = (s.size : Int) ∨ (st + M < (s.size : Int) ∧ (bt s (st + M) = 69 ∨ bt s (st + M) = 101))
 zero : bt s st = 48 → st + 1 < (s.size : Int) → bt s (st + 1) = 46 ∨ bt s (st + 1) = 69 ∨ bt s (st + 1) = 101
theorem low_x {c : Int} (h : c = 46 ∨ c = 69 ∨ c = 101) : (Go.bits .or .u8 c 32 == 120) = false := by
 rcases h with h | h | h <;> rw [h] <;> decide
section
variable (s : ByteArray) (w : World) (M N : Nat) (g ge : Nat → Nat)
theorem read_any_true (h : Front s true 1 M g) (R : Ending → World → Prop) (hT : ∀ x19 x20 u (Q' : Exit → Act → World → Prop), (∀ a w', Q' .ret a w' = bodyPost Tryz.prog Tryz.f91 R .ret a w') → Code.wp Tryz.prog readTail Q' (rAt s true 1 g M x19 x20 u) w) :
  Calls Tryz.prog 91 #[.string s] w R := by
 have hst0 : (0 : Int) ≤ 1 := by decide
 have hst1 : (1 : Int) ≤ 1 := by decide
 have h0 : 1 < (s.size : Int) := by have := h.fits; have := h.one; omega
 have hL : ∀ (Q : Exit → Act → World → Prop) (a : Act), a = ⟨rfr (.string s) (.int .u64 0) (.int .i64 0) (.bool true) (.bool false) (.bool false) (.int .i64 1) (.bool false) (.bool false) (.int .u64 10) (.int .i64 19) (.int .u8 101)
   (.bool false) (.bool false) (.int .i64 0) (.int .i64 0) (.int .i64 0) (a.tmps.getD 19 undef) (a.tmps.getD 20 undef) (fun n => a.tmps.getD n undef), []⟩ →
   (∀ x19 x20 u M, (∀ Q', (∀ a w', Q' .ret a w' = bodyPost Tryz.prog Tryz.f91 R .ret a w') → Code.wp Tryz.prog readTail Q' (rAt s true 1 g M x19 x20 u) w) → Q (.exit 1) (rAt s true 1 g M x19 x20 u) w) → Code.wp Tryz.prog (.loop readBody1) Q a w := by
  intro Q a ha hexit
  exact rloop_at s w true 1 M g h.fits h.sz hst0 hst1 h.bytes h.kinds h.dots h.fin (fun x19 x20 u => hexit x19 x20 u M (hT x19 x20 u)) rfl ha
 cases c1 : decide (3 < (s.size : Int)) with
 | false => exact rpre_true_short s w g h0 h.plus h.sgn.symm c1 R hL
 | true =>
  cases c2 : (bt s 1 == 48) with
  | false => exact rpre_true_other s w g h0 h.plus h.sgn.symm c1 c2 R hL
  | true =>
   have q := c1
   rw [decide_eq_true_eq] at q
   have q2 := h.zero (beq_iff_eq.mp c2) (by omega)
   exact rpre_true_lower s w g h0 h.plus h.sgn.symm c1 c2 (low_x q2) R hL
theorem read_plain_true (h : Front s true 1 M g) (hM : 1 + (M : Int) = s.size) :
  Calls Tryz.prog 91 #[.string s] w fun e w' => e = .returned (RPlain true 1 M (FP.rst g M)) ∧ w' = w :=
 read_any_true s w M g h _ fun x19 x20 u Q' hQ => rtail s w true 1 M g h.sz (by decide) (by decide) hM h.kinds h.seen rfl x19 x20 u Q' hQ
theorem read_any_false (h : Front s false 0 M g) (R : Ending → World → Prop) (hT : ∀ x19 x20 u (Q' : Exit → Act → World → Prop), (∀ a w', Q' .ret a w' = bodyPost Tryz.prog Tryz.f91 R .ret a w') → Code.wp Tryz.prog readTail Q' (rAt s false 0 g M x19 x20 u) w) :
  Calls Tryz.prog 91 #[.string s] w R := by
 have hst0 : (0 : Int) ≤ 0 := by decide
 have hst1 : (0 : Int) ≤ 1 := by decide
 have h0 : 0 < (s.size : Int) := by have := h.fits; have := h.one; omega
 have hL : ∀ (Q : Exit → Act → World → Prop) (a : Act), a = ⟨rfr (.string s) (.int .u64 0) (.int .i64 0) (.bool false) (.bool false) (.bool false) (.int .i64 0) (.bool false) (.bool false) (.int .u64 10) (.int .i64 19) (.int .u8 101)
   (.bool false) (.bool false) (.int .i64 0) (.int .i64 0) (.int .i64 0) (a.tmps.getD 19 undef) (a.tmps.getD 20 undef) (fun n => a.tmps.getD n undef), []⟩ →
   (∀ x19 x20 u M, (∀ Q', (∀ a w', Q' .ret a w' = bodyPost Tryz.prog Tryz.f91 R .ret a w') → Code.wp Tryz.prog readTail Q' (rAt s false 0 g M x19 x20 u) w) → Q (.exit 1) (rAt s false 0 g M x19 x20 u) w) → Code.wp Tryz.prog (.loop readBody1) Q a w := by
  intro Q a ha hexit
  exact rloop_at s w false 0 M g h.fits h.sz hst0 hst1 h.bytes h.kinds h.dots h.fin (fun x19 x20 u => hexit x19 x20 u M (hT x19 x20 u)) rfl ha
 cases c1 : decide (2 < (s.size : Int)) with
 | false => exact rpre_false_short s w g h0 h.plus h.sgn.symm c1 R hL
 | true =>
  cases c2 : (bt s 0 == 48) with
  | false => exact rpre_false_other s w g h0 h.plus h.sgn.symm c1 c2 R hL
  | true =>
   have q := c1
   rw [decide_eq_true_eq] at q
   have q2 := h.zero (beq_iff_eq.mp c2) (by omega)
   exact rpre_false_lower s w g h0 h.plus h.sgn.symm c1 c2 (low_x q2) R hL
theorem read_plain_false (h : Front s false 0 M g) (hM : 0 + (M : Int) = s.size) :
  Calls Tryz.prog 91 #[.string s] w fun e w' => e = .returned (RPlain false 0 M (FP.rst g M)) ∧ w' = w :=
 read_any_false s w M g h _ fun x19 x20 u Q' hQ => rtail s w false 0 M g h.sz (by decide) (by decide) hM h.kinds h.seen rfl x19 x20 u Q' hQ
end
end Go.Proofs.YtbimfhaokgigkaaGreatDoor
