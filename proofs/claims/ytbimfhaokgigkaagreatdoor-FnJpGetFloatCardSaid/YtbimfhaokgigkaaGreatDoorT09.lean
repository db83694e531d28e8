/- Walks of functions of FnJpGetFloat (A11); conditions stand ahead of each theorem. -/
import Derived.Test.YtbimfhaokgigkaaGreatDoorT08
set_option maxRecDepth 1000000
set_option maxHeartbeats 4000000
namespace Go.Proofs.YtbimfhaokgigkaaGreatDoor
open Go.RowKit Go.Proofs.YtbimfhaokgigkaaGreatDoorW.PrintWords Go.Proofs.YtbimfhaokgigkaaGreatDoorW.PrintLast
section
variable (s : ByteArray) (w : World) (neg : Bool) (st : Int) (M : Nat) (g : Nat → Nat) (N : Nat) (ge : Nat → Nat)
theorem eloop_at (x : Int) (r : FP.RSt) (D esg : Int) (hN : x + N = (s.size : Int)) (hsz : (s.size : Int) ≤ 800) (hx0 : 0 ≤ x) (hg : ∀ k < N, bt s (x + k) = (ge k : Int)) (hgd : ∀ k < N, 48 ≤ ge k ∧ ge k ≤ 57)
  {c : Code} {a : Act} {Q : Exit → Act → World → Prop} (hexit : ∀ u, Q (.exit 5) (eAt s neg x ge r D esg N u) w)
  (hc : readBody2 = c) (ha : a = ⟨rfr (.string s) (.int .u64 (r.mant : Int)) (.int .i64 0) (.bool neg) (.bool r.tr) (.bool false) (.int .i64 x) (.bool false) (.bool false) (.int .u64 10) (.int .i64 19) (.int .u8 101)
   (.bool r.dotted) (.bool r.seen) (.int .i64 (r.nd : Int)) (.int .i64 (r.nm : Int)) (.int .i64 D) (.int .i64 esg) (.int .i64 0) (fun n => a.tmps.getD n undef), []⟩) :
  Code.wp Tryz.prog (.loop c) Q a w := by
 have := eloop s w neg x N ge r D esg hN hsz hx0 hg hgd Q hexit (fun n => a.tmps.getD n undef)
 unfold eAt at this
 rw [show x + ((0 : Nat) : Int) = x by omega] at this
 rw [← hc, ha]
 exact this
theorem tup7 {a c d e f h : Value} {b b' : Int} (hb : b = b') : Ending.returned (.tuple #[a, .int .i64 b, c, d, e, f, h]) = .returned (.tuple #[a, .int .i64 b', c, d, e, f, h]) := by rw [hb]
def RExp (neg : Bool) (x : Int) (N : Nat) (r : FP.RSt) (esg : Int) (E : Nat) : Value := .tuple #[.int .u64 (r.mant : Int), .int .i64 (if r.mant = 0 then 0 else (if r.dotted then r.dp else r.nd) + E * esg - r.nm), .bool neg, .bool r.tr, .bool false, .int .i64 (x + N), .bool true]
theorem rexp_none (hsz : (s.size : Int) ≤ 800) (hst0 : 0 ≤ st) (hst1 : st ≤ 1) (hgd : ∀ j < M, g j = 46 ∨ (48 ≤ g j ∧ g j ≤ 57)) (hseen : (FP.rst g M).seen = true)
  (he : bt s (st + (M : Int)) = 69 ∨ bt s (st + (M : Int)) = 101)  (hN1 : 1 ≤ N) (hN : (st + (M : Int) + 1) + N = (s.size : Int)) (hb : ∀ k < N, bt s ((st + (M : Int) + 1) + k) = (ge k : Int)) (hbd : ∀ k < N, 48 ≤ ge k ∧ ge k ≤ 57)
  (x19 x20 : Value) (u : Nat → Value) (Q : Exit → Act → World → Prop) (hQ : ∀ a w', Q .ret a w' = bodyPost Tryz.prog Tryz.f91 (fun e w' => e = .returned (RExp neg (st + (M : Int) + 1) N (FP.rst g M) (1) (FP.ecl ge N)) ∧ w' = w) .ret a w') :
  Code.wp Tryz.prog readTail Q (rAt s neg st g M x19 x20 u) w := by
 have hok := FP.rst_ok hgd M (Nat.le_refl _)
 have b1 := hok.nd
 have b2 : (FP.rst g M).nm ≤ 19 := by have := hok.nm; omega
 have b4 := hok.lo
 have b5 := hok.hi
 have b6 := FP.ecl_lt hbd N (Nat.le_refl _)
 have hM800 : st + (M : Int) + 2 ≤ 800 := by omega
 have c1 : decide (st + (M : Int) < (s.size : Int)) = true := dT
 have c2 : decide ((s.size : Int) ≤ st + (M : Int) + 1) = false := dF
 have p0 : (0 ≤ st + (M : Int)) = True := eT
 have q0 : (st + (M : Int) < (s.size : Int)) = True := eT
 have x0 := bt_at s (st + (M : Int))
 have hlow : (Go.bits .or .u8 (bt s (st + (M : Int))) 32 == 101) = true := by rcases he with h | h <;> rw [h] <;> decide
 have p1 : (0 ≤ st + (M : Int) + 1) = True := eT
 have q1 : (st + (M : Int) + 1 < (s.size : Int)) = True := eT
 have x1 := bt_at s (st + (M : Int) + 1)
 have hd0 := hb 0 (by omega)
 have hd1 := hbd 0 (by omega)
 rw [show (st + (M : Int) + 1) + ((0 : Nat) : Int) = (st + (M : Int) + 1) by omega] at hd0
 have s43 : (bt s (st + (M : Int) + 1) == 43) = false := bF
 have s45 : (bt s (st + (M : Int) + 1) == 45) = false := bF
 have l48 : decide (bt s (st + (M : Int) + 1) < 48) = false := dF
 have l57 : decide (57 < bt s (st + (M : Int) + 1)) = false := dF
 clear hd0 hd1
 have HQ := az hQ
 have HN := az hN
 have HB := az hb
 have HBD := az hbd
 have hx0 : 0 ≤ (st + (M : Int) + 1) := by omega
 clear hok hgd hQ hb hbd hN he
 have HS := az hseen
 unfold rAt rfr
 rw [hseen]
 clear hseen
 cases hdd : (FP.rst g M).dotted <;> by_cases hm0 : (FP.rst g M).mant = 0
 all_goals have HD := az hdd
 all_goals have HZ := az hm0
 all_goals first | have e0 : (((FP.rst g M).mant : Int) != 0) = false := by rw [bne_eq_false_iff_eq]; omega
                 | have e0 : (((FP.rst g M).mant : Int) != 0) = true := nT
 all_goals clear hdd hm0
 all_goals conv => arg 2; whnf
 all_goals go_wp2_with fail
 all_goals go_call (lower_calls _ _) as e w1 ⟨rfl, rfl⟩
 all_goals go_wp2_with fail
 all_goals first | refine eloop_at s w1 neg N ge (st + (M : Int) + 1) { FP.rst g M with seen := true, dotted := false } ((FP.rst g M).nd : Int) (1) HN.out hsz hx0 HB.out HBD.out ?_ (by kernel_rfl) rfl
                 | refine eloop_at s w1 neg N ge (st + (M : Int) + 1) { FP.rst g M with seen := true, dotted := true } ((FP.rst g M).dp) (1) HN.out hsz hx0 HB.out HBD.out ?_ (by kernel_rfl) rfl
 all_goals intro u
 all_goals unfold eAt rfr
 all_goals simp only [Exit.inBlock, Exit.then, ↓reduceIte]
 all_goals go_wp2_with fail
 all_goals rw [HQ.out]
 all_goals go_returns
 all_goals refine ⟨?_, rfl⟩
 all_goals unfold RExp
 all_goals first | (rw [if_pos HZ.out]; try rfl; done) | (rw [if_neg HZ.out, HD.out]; exact tup7 (by simp only [↓reduceIte, Bool.false_eq_true]; omega))
theorem rexp_plus (hsz : (s.size : Int) ≤ 800) (hst0 : 0 ≤ st) (hst1 : st ≤ 1) (hgd : ∀ j < M, g j = 46 ∨ (48 ≤ g j ∧ g j ≤ 57)) (hseen : (FP.rst g M).seen = true)
  (he : bt s (st + (M : Int)) = 69 ∨ bt s (st + (M : Int)) = 101) (hs : bt s (st + (M : Int) + 1) = 43) (hN1 : 1 ≤ N) (hN : (st + (M : Int) + 1 + 1) + N = (s.size : Int)) (hb : ∀ k < N, bt s ((st + (M : Int) + 1 + 1) + k) = (ge k : Int)) (hbd : ∀ k < N, 48 ≤ ge k ∧ ge k ≤ 57)
  (x19 x20 : Value) (u : Nat → Value) (Q : Exit → Act → World → Prop) (hQ : ∀ a w', Q .ret a w' = bodyPost Tryz.prog Tryz.f91 (fun e w' => e = .returned (RExp neg (st + (M : Int) + 1 + 1) N (FP.rst g M) (1) (FP.ecl ge N)) ∧ w' = w) .ret a w') :
  Code.wp Tryz.prog readTail Q (rAt s neg st g M x19 x20 u) w := by
 have hok := FP.rst_ok hgd M (Nat.le_refl _)
 have b1 := hok.nd
 have b2 : (FP.rst g M).nm ≤ 19 := by have := hok.nm; omega
 have b4 := hok.lo
 have b5 := hok.hi
 have b6 := FP.ecl_lt hbd N (Nat.le_refl _)
 have hM800 : st + (M : Int) + 2 ≤ 800 := by omega
 have c1 : decide (st + (M : Int) < (s.size : Int)) = true := dT
 have c2 : decide ((s.size : Int) ≤ st + (M : Int) + 1) = false := dF
 have p0 : (0 ≤ st + (M : Int)) = True := eT
 have q0 : (st + (M : Int) < (s.size : Int)) = True := eT
 have x0 := bt_at s (st + (M : Int))
 have hlow : (Go.bits .or .u8 (bt s (st + (M : Int))) 32 == 101) = true := by rcases he with h | h <;> rw [h] <;> decide
 have p1 : (0 ≤ st + (M : Int) + 1) = True := eT
 have q1 : (st + (M : Int) + 1 < (s.size : Int)) = True := eT
 have x1 := bt_at s (st + (M : Int) + 1)
 have hd0 := hb 0 (by omega)
 have hd1 := hbd 0 (by omega)
 rw [show (st + (M : Int) + 1 + 1) + ((0 : Nat) : Int) = (st + (M : Int) + 1 + 1) by omega] at hd0
 have s43 : (bt s (st + (M : Int) + 1) == 43) = true := by rw [hs]; decide
 have s45 : (bt s (st + (M : Int) + 1) == 45) = false := by rw [hs]; decide
 have c3 : decide ((s.size : Int) ≤ st + (M : Int) + 1 + 1) = false := dF
 have p2 : (0 ≤ st + (M : Int) + 1 + 1) = True := eT
 have q2 : (st + (M : Int) + 1 + 1 < (s.size : Int)) = True := eT
 have x2 := bt_at s (st + (M : Int) + 1 + 1)
 have l48 : decide (bt s (st + (M : Int) + 1 + 1) < 48) = false := dF
 have l57 : decide (57 < bt s (st + (M : Int) + 1 + 1)) = false := dF
 clear hd0 hd1 hs
 have HQ := az hQ
 have HN := az hN
 have HB := az hb
 have HBD := az hbd
 have hx0 : 0 ≤ (st + (M : Int) + 1 + 1) := by omega
 clear hok hgd hQ hb hbd hN he
 have HS := az hseen
 unfold rAt rfr
 rw [hseen]
 clear hseen
 cases hdd : (FP.rst g M).dotted <;> by_cases hm0 : (FP.rst g M).mant = 0
 all_goals have HD := az hdd
 all_goals have HZ := az hm0
 all_goals first | have e0 : (((FP.rst g M).mant : Int) != 0) = false := by rw [bne_eq_false_iff_eq]; omega
                 | have e0 : (((FP.rst g M).mant : Int) != 0) = true := nT
 all_goals clear hdd hm0
 all_goals conv => arg 2; whnf
 all_goals go_wp2_with fail
 all_goals go_call (lower_calls _ _) as e w1 ⟨rfl, rfl⟩
 all_goals go_wp2_with fail
 all_goals first | refine eloop_at s w1 neg N ge (st + (M : Int) + 1 + 1) { FP.rst g M with seen := true, dotted := false } ((FP.rst g M).nd : Int) (1) HN.out hsz hx0 HB.out HBD.out ?_ (by kernel_rfl) rfl
                 | refine eloop_at s w1 neg N ge (st + (M : Int) + 1 + 1) { FP.rst g M with seen := true, dotted := true } ((FP.rst g M).dp) (1) HN.out hsz hx0 HB.out HBD.out ?_ (by kernel_rfl) rfl
 all_goals intro u
 all_goals unfold eAt rfr
 all_goals simp only [Exit.inBlock, Exit.then, ↓reduceIte]
 all_goals go_wp2_with fail
 all_goals rw [HQ.out]
 all_goals go_returns
 all_goals refine ⟨?_, rfl⟩
 all_goals unfold RExp
 all_goals first | (rw [if_pos HZ.out]; try rfl; done) | (rw [if_neg HZ.out, HD.out]; exact tup7 (by simp only [↓reduceIte, Bool.false_eq_true]; omega))
theorem rexp_minus (hsz : (s.size : Int) ≤ 800) (hst0 : 0 ≤ st) (hst1 : st ≤ 1) (hgd : ∀ j < M, g j = 46 ∨ (48 ≤ g j ∧ g j ≤ 57)) (hseen : (FP.rst g M).seen = true)
  (he : bt s (st + (M : Int)) = 69 ∨ bt s (st + (M : Int)) = 101) (hs : bt s (st + (M : Int) + 1) = 45) (hN1 : 1 ≤ N) (hN : (st + (M : Int) + 1 + 1) + N = (s.size : Int)) (hb : ∀ k < N, bt s ((st + (M : Int) + 1 + 1) + k) = (ge k : Int)) (hbd : ∀ k < N, 48 ≤ ge k ∧ ge k ≤ 57)
  (x19 x20 : Value) (u : Nat → Value) (Q : Exit → Act → World → Prop) (hQ : ∀ a w', Q .ret a w' = bodyPost Tryz.prog Tryz.f91 (fun e w' => e = .returned (RExp neg (st + (M : Int) + 1 + 1) N (FP.rst g M) (-1) (FP.ecl ge N)) ∧ w' = w) .ret a w') :
  Code.wp Tryz.prog readTail Q (rAt s neg st g M x19 x20 u) w := by
 have hok := FP.rst_ok hgd M (Nat.le_refl _)
 have b1 := hok.nd
 have b2 : (FP.rst g M).nm ≤ 19 := by have := hok.nm; omega
 have b4 := hok.lo
 have b5 := hok.hi
 have b6 := FP.ecl_lt hbd N (Nat.le_refl _)
 have hM800 : st + (M : Int) + 2 ≤ 800 := by omega
 have c1 : decide (st + (M : Int) < (s.size : Int)) = true := dT
 have c2 : decide ((s.size : Int) ≤ st + (M : Int) + 1) = false := dF
 have p0 : (0 ≤ st + (M : Int)) = True := eT
 have q0 : (st + (M : Int) < (s.size : Int)) = True := eT
 have x0 := bt_at s (st + (M : Int))
 have hlow : (Go.bits .or .u8 (bt s (st + (M : Int))) 32 == 101) = true := by rcases he with h | h <;> rw [h] <;> decide
 have p1 : (0 ≤ st + (M : Int) + 1) = True := eT
 have q1 : (st + (M : Int) + 1 < (s.size : Int)) = True := eT
 have x1 := bt_at s (st + (M : Int) + 1)
 have hd0 := hb 0 (by omega)
 have hd1 := hbd 0 (by omega)
 rw [show (st + (M : Int) + 1 + 1) + ((0 : Nat) : Int) = (st + (M : Int) + 1 + 1) by omega] at hd0
 have s43 : (bt s (st + (M : Int) + 1) == 43) = false := by rw [hs]; decide
 have s45 : (bt s (st + (M : Int) + 1) == 45) = true := by rw [hs]; decide
 have c3 : decide ((s.size : Int) ≤ st + (M : Int) + 1 + 1) = false := dF
 have p2 : (0 ≤ st + (M : Int) + 1 + 1) = True := eT
 have q2 : (st + (M : Int) + 1 + 1 < (s.size : Int)) = True := eT
 have x2 := bt_at s (st + (M : Int) + 1 + 1)
 have l48 : decide (bt s (st + (M : Int) + 1 + 1) < 48) = false := dF
 have l57 : decide (57 < bt s (st + (M : Int) + 1 + 1)) = false := dF
 clear hd0 hd1 hs
 have HQ := az hQ
 have HN := az hN
 have HB := az hb
 have HBD := az hbd
 have hx0 : 0 ≤ (st + (M : Int) + 1 + 1) := by omega
 clear hok hgd hQ hb hbd hN he
 have HS := az hseen
 unfold rAt rfr
 rw [hseen]
 clear hseen
 cases hdd : (FP.rst g M).dotted <;> by_cases hm0 : (FP.rst g M).mant = 0
 all_goals have HD := az hdd
 all_goals have HZ := az hm0
 all_goals first | have e0 : (((FP.rst g M).mant : Int) != 0) = false := by rw [bne_eq_false_iff_eq]; omega
                 | have e0 : (((FP.rst g M).mant : Int) != 0) = true := nT
 all_goals clear hdd hm0
 all_goals conv => arg 2; whnf
 all_goals go_wp2_with fail
 all_goals go_call (lower_calls _ _) as e w1 ⟨rfl, rfl⟩
 all_goals go_wp2_with fail
 all_goals first | refine eloop_at s w1 neg N ge (st + (M : Int) + 1 + 1) { FP.rst g M with seen := true, dotted := false } ((FP.rst g M).nd : Int) (-1) HN.out hsz hx0 HB.out HBD.out ?_ (by kernel_rfl) rfl
                 | refine eloop_at s w1 neg N ge (st + (M : Int) + 1 + 1) { FP.rst g M with seen := true, dotted := true } ((FP.rst g M).dp) (-1) HN.out hsz hx0 HB.out HBD.out ?_ (by kernel_rfl) rfl
 all_goals intro u
 all_goals unfold eAt rfr
 all_goals simp only [Exit.inBlock, Exit.then, ↓reduceIte]
 all_goals go_wp2_with fail
 all_goals rw [HQ.out]
 all_goals go_returns
 all_goals refine ⟨?_, rfl⟩
 all_goals unfold RExp
 all_goals first | (rw [if_pos HZ.out]; try rfl; done) | (rw [if_neg HZ.out, HD.out]; exact tup7 (by simp only [↓reduceIte, Bool.false_eq_true]; omega))
structure Back (s : ByteArray) (at0 : Int) (x : Int) (esg : Int) (N : Nat) (ge : Nat → Nat) : Prop where
 letter : bt s at0 = 69 ∨ bt s at0 = 101
 sgn : (x = at0 + 1 ∧ esg = 1) ∨ (x = at0 + 1 + 1 ∧ bt s (at0 + 1) = 43 ∧ esg = 1) ∨ (x = at0 + 1 + 1 ∧ bt s (at0 + 1) = 45 ∧ esg = -1)
 one : 1 ≤ N
 fin : x + N = (s.size : Int)
 bytes : ∀ k < N, bt s (x + k) = (ge k : Int)
 kinds : ∀ k < N, 48 ≤ ge k ∧ ge k ≤ 57
theorem rexp_all (hsz : (s.size : Int) ≤ 800) (hst0 : 0 ≤ st) (hst1 : st ≤ 1) (hgd : ∀ j < M, g j = 46 ∨ (48 ≤ g j ∧ g j ≤ 57)) (hseen : (FP.rst g M).seen = true) {x esg : Int} (h : Back s (st + (M : Int)) x esg N ge)
  (x19 x20 : Value) (u : Nat → Value) (Q : Exit → Act → World → Prop) (hQ : ∀ a w', Q .ret a w' = bodyPost Tryz.prog Tryz.f91 (fun e w' => e = .returned (RExp neg x N (FP.rst g M) esg (FP.ecl ge N)) ∧ w' = w) .ret a w') :
  Code.wp Tryz.prog readTail Q (rAt s neg st g M x19 x20 u) w := by
 obtain ⟨h1, h2, h3, h4, h5, h6⟩ := h
 rcases h2 with ⟨rfl, rfl⟩ | ⟨rfl, hs, rfl⟩ | ⟨rfl, hs, rfl⟩
 ·exact rexp_none s w neg st M g N ge hsz hst0 hst1 hgd hseen h1 h3 h4 h5 h6 x19 x20 u Q hQ
 ·exact rexp_plus s w neg st M g N ge hsz hst0 hst1 hgd hseen h1 hs h3 h4 h5 h6 x19 x20 u Q hQ
 ·exact rexp_minus s w neg st M g N ge hsz hst0 hst1 hgd hseen h1 hs h3 h4 h5 h6 x19 x20 u Q hQ
end
section
variable (s : ByteArray) (w : World) (M N : Nat) (g ge : Nat → Nat)
theorem read_exp_true (h : Front s true 1 M g) {x esg : Int} (hb : Back s (1 + (M : Int)) x esg N ge) :
  Calls Tryz.prog 91 #[.string s] w fun e w' => e = .returned (RExp true x N (FP.rst g M) esg (FP.ecl ge N)) ∧ w' = w :=
 read_any_true s w M g h _ fun x19 x20 u Q' hQ => rexp_all s w true 1 M g N ge h.sz (by decide) (by decide) h.kinds h.seen hb x19 x20 u Q' hQ
theorem read_exp_false (h : Front s false 0 M g) {x esg : Int} (hb : Back s (0 + (M : Int)) x esg N ge) :
  Calls Tryz.prog 91 #[.string s] w fun e w' => e = .returned (RExp false x N (FP.rst g M) esg (FP.ecl ge N)) ∧ w' = w :=
 read_any_false s w M g h _ fun x19 x20 u Q' hQ => rexp_all s w false 0 M g N ge h.sz (by decide) (by decide) h.kinds h.seen hb x19 x20 u Q' hQ
end
end Go.Proofs.YtbimfhaokgigkaaGreatDoor
